/-
  DERIVED: THE SHELF's CONTRACTS AT THIS DUMP, IN PLAIN WORDS (tools/lay-plain.mjs out of 'TryShelf.lean', which tools/lay-shelf.mjs wrote): THE SAME DECLARATIONS UNDER THE SAME NAMES: 'import', 'namespace', 'open', 'def', 'theorem' AND NOTHING ELSE: no command of the shelf's: FOR A HAND-IN. Each laying: the table of numbers ('.._ren') and one theorem, a field a fact of the dump's own or the kernel's comparison; each contract: ONE APPLICATION.
-/
import Derived.Shelf.Strings.Search1
import Derived.Shelf.Strings.Search2
import Derived.Shelf.Strings.Search3
import Derived.Shelf.LaysM
import Derived.Shelf.Strings.Shaped
import Derived.Shelf.Strings.Prefix
import Derived.Ground.PaProg
import Derived.Shelf.Path.LazyBuf
import Derived.Shelf.Path.CleanRel
import Derived.Shelf.Path.CleanAbs
import Derived.Shelf.Path.Clean
import Derived.Shelf.Path.CleanRules
import Derived.Test.Qxb6603623aProg
namespace Go.Proofs
open Go.Shelf
def Try.lays217_ren : Go.Shelf.Ren := ⟨fun | 217 => 38 | 266 => 42 | n => n, fun | 9 => 9 | 5 => 5 | 3 => 3 | n => n, fun | n => n⟩
theorem Try.lays217 : Go.Proofs.Lays.n217 Try.prog Try.lays217_ren := {
  mixed := by kernel_rfl
  f217 := Try.func38.trans (congrArg some (by kernel_rfl))
  f266 := Try.func42.trans (congrArg some (by kernel_rfl))
  t3 := Try.underlying3
  a3 := Try.isAgg3
  z3 := Try.sizeOf3
  v3 := Try.zeroValue3
  t5 := Try.underlying5
  a5 := Try.isAgg5
  z5 := Try.sizeOf5
  v5 := Try.zeroValue5
  t9 := Try.underlying9
  a9 := Try.isAgg9
  z9 := Try.sizeOf9
  v9 := Try.zeroValue9 }
open Go.RowKit Go.Lib in
/-- internal/stringslite.IndexByte (what strings.IndexByte calls): IT RETURNS 'Lib.indexByte s c'; the world is as it was. (LAID: no walk: one application.) -/
theorem Try.stringslite_IndexByte (s : ByteArray) (c : Int) (w : World) :
    Calls Try.prog 38 #[.string s, .int .u8 c] w fun e w' => e = .returned (.int .i64 (Lib.indexByte s.data.toList c.toNat.toUInt8)) ∧ w' = w := Any.stringslite_IndexByte Try.lays217 s c w
def Try.lays224_ren : Go.Shelf.Ren := ⟨fun | 224 => 40 | n => n, fun | 3 => 3 | n => n, fun | n => n⟩
theorem Try.lays224 : Go.Proofs.Lays.n224 Try.prog Try.lays224_ren := {
  mixed := by kernel_rfl
  f224 := Try.func40.trans (congrArg some (by kernel_rfl))
  t3 := Try.underlying3
  a3 := Try.isAgg3
  z3 := Try.sizeOf3
  v3 := Try.zeroValue3 }
open Go.RowKit Go.Lib in
/-- internal/bytealg.Cutover: "Cutover reports the number of failures of IndexByte we should tolerate before switching over to Index. n is the number of bytes processed so far.": on amd64: (n + 16) / 8. (LAID: no walk: one application.) -/
theorem Try.bytealg_Cutover (n : Int) (h0 : 0 ≤ n) (h1 : n < 4611686018427387904) (w : World) :
    Calls Try.prog 40 #[.int .i64 n] w fun e w' => e = .returned (.int .i64 ((n + 16) / 8)) ∧ w' = w := Any.bytealg_Cutover Try.lays224 n h0 h1 w
def Try.lays314_ren : Go.Shelf.Ren := ⟨fun | 314 => 43 | n => n, fun | 9 => 9 | 51 => 69 | 3 => 3 | 4 => 4 | 5 => 5 | 46 => 67 | n => n, fun | n => n⟩
theorem Try.lays314 : Go.Proofs.Lays.n314 Try.prog Try.lays314_ren := {
  mixed := by kernel_rfl
  f314 := Try.func43.trans (congrArg some (by kernel_rfl))
  t3 := Try.underlying3
  a3 := Try.isAgg3
  z3 := Try.sizeOf3
  v3 := Try.zeroValue3
  t4 := Try.underlying4
  a4 := Try.isAgg4
  z4 := Try.sizeOf4
  v4 := Try.zeroValue4
  t5 := Try.underlying5
  a5 := Try.isAgg5
  z5 := Try.sizeOf5
  v5 := Try.zeroValue5
  t9 := Try.underlying9
  a9 := Try.isAgg9
  z9 := Try.sizeOf9
  v9 := Try.zeroValue9
  t46 := Try.underlying67
  a46 := Try.isAgg67
  z46 := Try.sizeOf67
  v46 := Try.zeroValue67
  t51 := Try.underlying69
  a51 := Try.isAgg69
  z51 := Try.sizeOf69
  v51 := Try.zeroValue69 }
open Go.RowKit Go.Lib in
/-- hashStr: "returns the hash and the appropriate multiplicative factor for use in Rabin-Karp algorithm": THE HASH OF ALL OF sep, AND 16777619 ^ len(sep), both in uint32. (LAID: no walk: one application.) -/
theorem Try.bytealg_hashStr (sep : ByteArray) (hs : sep.size < 4294967281) (w : World) :
    Calls Try.prog 43 #[.string sep] w fun e w' => e = .returned (.tuple #[.int .u32 (RK.H sep.data.toList % 4294967296), .int .u32 (16777619 ^ sep.size % 4294967296)]) ∧ w' = w := Any.bytealg_hashStr Try.lays314 sep hs w
def Try.lays267_ren : Go.Shelf.Ren := ⟨fun | 267 => 41 | 314 => 43 | n => n, fun | 9 => 9 | 3 => 3 | 146 => 70 | 51 => 69 | 4 => 4 | 5 => 5 | 46 => 67 | n => n, fun | n => n⟩
theorem Try.lays267 : Go.Proofs.Lays.n267 Try.prog Try.lays267_ren := {
  mixed := by kernel_rfl
  f267 := Try.func41.trans (congrArg some (by kernel_rfl))
  f314 := Try.func43.trans (congrArg some (by kernel_rfl))
  t3 := Try.underlying3
  a3 := Try.isAgg3
  z3 := Try.sizeOf3
  v3 := Try.zeroValue3
  t4 := Try.underlying4
  a4 := Try.isAgg4
  z4 := Try.sizeOf4
  v4 := Try.zeroValue4
  t5 := Try.underlying5
  a5 := Try.isAgg5
  z5 := Try.sizeOf5
  v5 := Try.zeroValue5
  t9 := Try.underlying9
  a9 := Try.isAgg9
  z9 := Try.sizeOf9
  v9 := Try.zeroValue9
  t46 := Try.underlying67
  a46 := Try.isAgg67
  z46 := Try.sizeOf67
  v46 := Try.zeroValue67
  t51 := Try.underlying69
  a51 := Try.isAgg69
  z51 := Try.sizeOf69
  v51 := Try.zeroValue69
  t146 := Try.underlying70
  a146 := Try.isAgg70
  z146 := Try.sizeOf70
  v146 := Try.zeroValue70 }
open Go.RowKit Go.Lib in
theorem Try.bytealg_IndexRabinKarp (s sep : ByteArray) (h1 : 1 ≤ sep.size) (h2 : sep.size ≤ s.size) (hs : s.size < 4294967281) (w : World) :
    Calls Try.prog 41 #[.string s, .string sep] w fun e w' => e = .returned (.int .i64 (Lib.index s.data.toList sep.data.toList)) ∧ w' = w := Any.bytealg_IndexRabinKarp Try.lays267 s sep h1 h2 hs w
def Try.lays219_ren : Go.Shelf.Ren := ⟨fun | 219 => 34 | 217 => 38 | 225 => 39 | 224 => 40 | 267 => 41 | 266 => 42 | 314 => 43 | n => n, fun | 9 => 9 | 3 => 3 | 4 => 4 | 5 => 5 | 46 => 67 | 146 => 70 | 51 => 69 | n => n, fun | 1 => 0 | n => n⟩
theorem Try.lays219 : Go.Proofs.Lays.n219 Try.prog Try.lays219_ren := {
  mixed := by kernel_rfl
  f217 := Try.func38.trans (congrArg some (by kernel_rfl))
  f219 := Try.func34.trans (congrArg some (by kernel_rfl))
  f224 := Try.func40.trans (congrArg some (by kernel_rfl))
  f225 := Try.func39.trans (congrArg some (by kernel_rfl))
  f266 := Try.func42.trans (congrArg some (by kernel_rfl))
  f267 := Try.func41.trans (congrArg some (by kernel_rfl))
  f314 := Try.func43.trans (congrArg some (by kernel_rfl))
  t3 := Try.underlying3
  a3 := Try.isAgg3
  z3 := Try.sizeOf3
  v3 := Try.zeroValue3
  t4 := Try.underlying4
  a4 := Try.isAgg4
  z4 := Try.sizeOf4
  v4 := Try.zeroValue4
  t5 := Try.underlying5
  a5 := Try.isAgg5
  z5 := Try.sizeOf5
  v5 := Try.zeroValue5
  t9 := Try.underlying9
  a9 := Try.isAgg9
  z9 := Try.sizeOf9
  v9 := Try.zeroValue9
  t46 := Try.underlying67
  a46 := Try.isAgg67
  z46 := Try.sizeOf67
  v46 := Try.zeroValue67
  t51 := Try.underlying69
  a51 := Try.isAgg69
  z51 := Try.sizeOf69
  v51 := Try.zeroValue69
  t146 := Try.underlying70
  a146 := Try.isAgg70
  z146 := Try.sizeOf70
  v146 := Try.zeroValue70
  g1 := by kernel_rfl }
open Go.RowKit Go.Lib in
/-- internal/stringslite.Index (what strings.Index calls) AT A substr OF ONE BYTE c: IT RETURNS 'Lib.indexByte s c'; the world is as it was. (LAID: no walk: one application.) -/
theorem Try.stringslite_Index_one (s : ByteArray) (c : UInt8) (w : World) :
    Calls Try.prog 34 #[.string s, .string ⟨#[c]⟩] w fun e w' => e = .returned (.int .i64 (Lib.indexByte s.data.toList c)) ∧ w' = w := Any.stringslite_Index_one Try.lays219 s c w
open Go.RowKit Go.Lib in
/-- internal/stringslite.Index (what strings.Index calls) AT A substr OF WHATEVER LENGTH: IT RETURNS 'Lib.index s substr'; the world is as it was. 'm': what internal/bytealg.MaxLen holds: whatever. (LAID: no walk: one application.) -/
theorem Try.stringslite_Index (s sub : ByteArray) (m : Int) (w : World) (hs : s.size < 4294967281) (hm : w.cell? ⟨0, 0, none⟩ = some (.int .i64 m)) :
    Calls Try.prog 34 #[.string s, .string sub] w fun e w' => e = .returned (.int .i64 (Lib.index s.data.toList sub.data.toList)) ∧ w' = w := Any.stringslite_Index Try.lays219 s sub m w hs hm
def Try.lays143_ren : Go.Shelf.Ren := ⟨fun | 143 => 29 | 219 => 34 | 217 => 38 | 225 => 39 | 224 => 40 | 267 => 41 | 266 => 42 | 314 => 43 | n => n, fun | 9 => 9 | 3 => 3 | 4 => 4 | 5 => 5 | 46 => 67 | 146 => 70 | 51 => 69 | n => n, fun | 1 => 0 | n => n⟩
theorem Try.lays143 : Go.Proofs.Lays.n143 Try.prog Try.lays143_ren := {
  mixed := by kernel_rfl
  f143 := Try.func29.trans (congrArg some (by kernel_rfl))
  f217 := Try.func38.trans (congrArg some (by kernel_rfl))
  f219 := Try.func34.trans (congrArg some (by kernel_rfl))
  f224 := Try.func40.trans (congrArg some (by kernel_rfl))
  f225 := Try.func39.trans (congrArg some (by kernel_rfl))
  f266 := Try.func42.trans (congrArg some (by kernel_rfl))
  f267 := Try.func41.trans (congrArg some (by kernel_rfl))
  f314 := Try.func43.trans (congrArg some (by kernel_rfl))
  t3 := Try.underlying3
  a3 := Try.isAgg3
  z3 := Try.sizeOf3
  v3 := Try.zeroValue3
  t4 := Try.underlying4
  a4 := Try.isAgg4
  z4 := Try.sizeOf4
  v4 := Try.zeroValue4
  t5 := Try.underlying5
  a5 := Try.isAgg5
  z5 := Try.sizeOf5
  v5 := Try.zeroValue5
  t9 := Try.underlying9
  a9 := Try.isAgg9
  z9 := Try.sizeOf9
  v9 := Try.zeroValue9
  t46 := Try.underlying67
  a46 := Try.isAgg67
  z46 := Try.sizeOf67
  v46 := Try.zeroValue67
  t51 := Try.underlying69
  a51 := Try.isAgg69
  z51 := Try.sizeOf69
  v51 := Try.zeroValue69
  t146 := Try.underlying70
  a146 := Try.isAgg70
  z146 := Try.sizeOf70
  v146 := Try.zeroValue70
  g1 := by kernel_rfl }
open Go.RowKit Go.Lib in
/-- strings.Index: "Index returns the index of the first instance of substr in s, or -1 if substr is not present in s.": AT A substr OF ONE BYTE c: IT RETURNS 'Lib.indexByte s c'; the world is as it was. (LAID: no walk: one application.) -/
theorem Try.strings_Index_one (s : ByteArray) (c : UInt8) (w : World) :
    Calls Try.prog 29 #[.string s, .string ⟨#[c]⟩] w fun e w' => e = .returned (.int .i64 (Lib.indexByte s.data.toList c)) ∧ w' = w := Any.strings_Index_one Try.lays143 s c w
open Go.RowKit Go.Lib in
/-- strings.Index: "Index returns the index of the first instance of substr in s, or -1 if substr is not present in s.": IT RETURNS 'Lib.index s substr'; the world is as it was. (LAID: no walk: one application.) -/
theorem Try.strings_Index (s sub : ByteArray) (m : Int) (w : World) (hs : s.size < 4294967281) (hm : w.cell? ⟨0, 0, none⟩ = some (.int .i64 m)) :
    Calls Try.prog 29 #[.string s, .string sub] w fun e w' => e = .returned (.int .i64 (Lib.index s.data.toList sub.data.toList)) ∧ w' = w := Any.strings_Index Try.lays143 s sub m w hs hm
def Try.lays144_ren : Go.Shelf.Ren := ⟨fun | 144 => 23 | 143 => 29 | 219 => 34 | 217 => 38 | 225 => 39 | 224 => 40 | 267 => 41 | 266 => 42 | 314 => 43 | n => n, fun | 9 => 9 | 4 => 4 | 3 => 3 | 5 => 5 | 46 => 67 | 146 => 70 | 51 => 69 | n => n, fun | 1 => 0 | n => n⟩
theorem Try.lays144 : Go.Proofs.Lays.n144 Try.prog Try.lays144_ren := {
  mixed := by kernel_rfl
  f143 := Try.func29.trans (congrArg some (by kernel_rfl))
  f144 := Try.func23.trans (congrArg some (by kernel_rfl))
  f217 := Try.func38.trans (congrArg some (by kernel_rfl))
  f219 := Try.func34.trans (congrArg some (by kernel_rfl))
  f224 := Try.func40.trans (congrArg some (by kernel_rfl))
  f225 := Try.func39.trans (congrArg some (by kernel_rfl))
  f266 := Try.func42.trans (congrArg some (by kernel_rfl))
  f267 := Try.func41.trans (congrArg some (by kernel_rfl))
  f314 := Try.func43.trans (congrArg some (by kernel_rfl))
  t3 := Try.underlying3
  a3 := Try.isAgg3
  z3 := Try.sizeOf3
  v3 := Try.zeroValue3
  t4 := Try.underlying4
  a4 := Try.isAgg4
  z4 := Try.sizeOf4
  v4 := Try.zeroValue4
  t5 := Try.underlying5
  a5 := Try.isAgg5
  z5 := Try.sizeOf5
  v5 := Try.zeroValue5
  t9 := Try.underlying9
  a9 := Try.isAgg9
  z9 := Try.sizeOf9
  v9 := Try.zeroValue9
  t46 := Try.underlying67
  a46 := Try.isAgg67
  z46 := Try.sizeOf67
  v46 := Try.zeroValue67
  t51 := Try.underlying69
  a51 := Try.isAgg69
  z51 := Try.sizeOf69
  v51 := Try.zeroValue69
  t146 := Try.underlying70
  a146 := Try.isAgg70
  z146 := Try.sizeOf70
  v146 := Try.zeroValue70
  g1 := by kernel_rfl }
open Go.RowKit Go.Lib in
/-- strings.Contains: "Contains reports whether substr is within s.": AT A substr OF ONE BYTE c: IT RETURNS 'decide (0 ≤ Lib.indexByte s c)'; the world is as it was. (LAID: no walk: one application.) -/
theorem Try.strings_Contains_one (s : ByteArray) (c : UInt8) (w : World) :
    Calls Try.prog 23 #[.string s, .string ⟨#[c]⟩] w fun e w' => e = .returned (.bool (decide (0 ≤ Lib.indexByte s.data.toList c))) ∧ w' = w := Any.strings_Contains_one Try.lays144 s c w
open Go.RowKit Go.Lib in
/-- strings.Contains: "Contains reports whether substr is within s.": IT RETURNS 'Lib.contains s substr'; the world is as it was. (LAID: no walk: one application.) -/
theorem Try.strings_Contains (s sub : ByteArray) (m : Int) (w : World) (hs : s.size < 4294967281) (hm : w.cell? ⟨0, 0, none⟩ = some (.int .i64 m)) :
    Calls Try.prog 23 #[.string s, .string sub] w fun e w' => e = .returned (.bool (Lib.contains s.data.toList sub.data.toList)) ∧ w' = w := Any.strings_Contains Try.lays144 s sub m w hs hm
def Try.laysM219_ren : Go.Shelf.Ren := ⟨fun | 219 => 34 | 217 => 38 | 225 => 39 | 224 => 40 | 267 => 41 | 266 => 42 | 314 => 43 | n => n, fun | 9 => 9 | 3 => 3 | 4 => 4 | 5 => 5 | 46 => 67 | 146 => 70 | 51 => 69 | n => n, fun | 1 => 0 | n => n⟩
theorem Try.laysM219 : Go.Proofs.LaysM.n219 Try.prog Try.laysM219_ren := {
  mixed := by kernel_rfl
  f217 := Try.func38.trans (congrArg some (by kernel_rfl))
  f219 := Try.func34.trans (congrArg some (by kernel_rfl))
  f224 := Try.func40.trans (congrArg some (by kernel_rfl))
  f225 := Try.func39.trans (congrArg some (by kernel_rfl))
  f266 := Try.func42.trans (congrArg some (by kernel_rfl))
  f267 := Try.func41.trans (congrArg some (by kernel_rfl))
  f314 := Try.func43.trans (congrArg some (by kernel_rfl))
  t3 := Try.underlying3
  a3 := Try.isAgg3
  z3 := Try.sizeOf3
  v3 := Try.zeroValue3
  t4 := Try.underlying4
  a4 := Try.isAgg4
  z4 := Try.sizeOf4
  v4 := Try.zeroValue4
  t5 := Try.underlying5
  a5 := Try.isAgg5
  z5 := Try.sizeOf5
  v5 := Try.zeroValue5
  t9 := Try.underlying9
  a9 := Try.isAgg9
  z9 := Try.sizeOf9
  v9 := Try.zeroValue9
  t46 := Try.underlying67
  a46 := Try.isAgg67
  z46 := Try.sizeOf67
  v46 := Try.zeroValue67
  t51 := Try.underlying69
  a51 := Try.isAgg69
  z51 := Try.sizeOf69
  v51 := Try.zeroValue69
  t146 := Try.underlying70
  a146 := Try.isAgg70
  z146 := Try.sizeOf70
  v146 := Try.zeroValue70
  g1 := by kernel_rfl
  i3 := by kernel_rfl
  i4 := by kernel_rfl
  i5 := by kernel_rfl
  i9 := by kernel_rfl
  i46 := by kernel_rfl
  i51 := by kernel_rfl
  i146 := by kernel_rfl
  m1 := by kernel_rfl
  s1_3 := fun w h => Go.Proofs.cell_of_shapedOpen_int (zero := #[.int .i64 0]) (t := 3) h (of_decide_eq_true (by kernel_rfl)) (by kernel_rfl) rfl (by kernel_rfl) (by kernel_rfl) Try.underlying3 }
open Go.RowKit Go.Lib in
theorem Try.stringslite_Index_shaped (s sub : ByteArray) (w : World) (h : w.ShapedOpen Try.prog) (hs : s.size < 4294967281) :
    Calls Try.prog 34 #[.string s, .string sub] w fun e w' => e = .returned (.int .i64 (Lib.index s.data.toList sub.data.toList)) ∧ w' = w := Any.stringslite_Index_shaped Try.laysM219 s sub w h hs
def Try.laysM143_ren : Go.Shelf.Ren := ⟨fun | 143 => 29 | 219 => 34 | 217 => 38 | 225 => 39 | 224 => 40 | 267 => 41 | 266 => 42 | 314 => 43 | n => n, fun | 9 => 9 | 3 => 3 | 4 => 4 | 5 => 5 | 46 => 67 | 146 => 70 | 51 => 69 | n => n, fun | 1 => 0 | n => n⟩
theorem Try.laysM143 : Go.Proofs.LaysM.n143 Try.prog Try.laysM143_ren := {
  mixed := by kernel_rfl
  f143 := Try.func29.trans (congrArg some (by kernel_rfl))
  f217 := Try.func38.trans (congrArg some (by kernel_rfl))
  f219 := Try.func34.trans (congrArg some (by kernel_rfl))
  f224 := Try.func40.trans (congrArg some (by kernel_rfl))
  f225 := Try.func39.trans (congrArg some (by kernel_rfl))
  f266 := Try.func42.trans (congrArg some (by kernel_rfl))
  f267 := Try.func41.trans (congrArg some (by kernel_rfl))
  f314 := Try.func43.trans (congrArg some (by kernel_rfl))
  t3 := Try.underlying3
  a3 := Try.isAgg3
  z3 := Try.sizeOf3
  v3 := Try.zeroValue3
  t4 := Try.underlying4
  a4 := Try.isAgg4
  z4 := Try.sizeOf4
  v4 := Try.zeroValue4
  t5 := Try.underlying5
  a5 := Try.isAgg5
  z5 := Try.sizeOf5
  v5 := Try.zeroValue5
  t9 := Try.underlying9
  a9 := Try.isAgg9
  z9 := Try.sizeOf9
  v9 := Try.zeroValue9
  t46 := Try.underlying67
  a46 := Try.isAgg67
  z46 := Try.sizeOf67
  v46 := Try.zeroValue67
  t51 := Try.underlying69
  a51 := Try.isAgg69
  z51 := Try.sizeOf69
  v51 := Try.zeroValue69
  t146 := Try.underlying70
  a146 := Try.isAgg70
  z146 := Try.sizeOf70
  v146 := Try.zeroValue70
  g1 := by kernel_rfl
  i3 := by kernel_rfl
  i4 := by kernel_rfl
  i5 := by kernel_rfl
  i9 := by kernel_rfl
  i46 := by kernel_rfl
  i51 := by kernel_rfl
  i146 := by kernel_rfl
  m1 := by kernel_rfl
  s1_3 := fun w h => Go.Proofs.cell_of_shapedOpen_int (zero := #[.int .i64 0]) (t := 3) h (of_decide_eq_true (by kernel_rfl)) (by kernel_rfl) rfl (by kernel_rfl) (by kernel_rfl) Try.underlying3 }
open Go.RowKit Go.Lib in
theorem Try.strings_Index_shaped (s sub : ByteArray) (w : World) (h : w.ShapedOpen Try.prog) (hs : s.size < 4294967281) :
    Calls Try.prog 29 #[.string s, .string sub] w fun e w' => e = .returned (.int .i64 (Lib.index s.data.toList sub.data.toList)) ∧ w' = w := Any.strings_Index_shaped Try.laysM143 s sub w h hs
def Try.laysM144_ren : Go.Shelf.Ren := ⟨fun | 144 => 23 | 143 => 29 | 219 => 34 | 217 => 38 | 225 => 39 | 224 => 40 | 267 => 41 | 266 => 42 | 314 => 43 | n => n, fun | 9 => 9 | 4 => 4 | 3 => 3 | 5 => 5 | 46 => 67 | 146 => 70 | 51 => 69 | n => n, fun | 1 => 0 | n => n⟩
theorem Try.laysM144 : Go.Proofs.LaysM.n144 Try.prog Try.laysM144_ren := {
  mixed := by kernel_rfl
  f143 := Try.func29.trans (congrArg some (by kernel_rfl))
  f144 := Try.func23.trans (congrArg some (by kernel_rfl))
  f217 := Try.func38.trans (congrArg some (by kernel_rfl))
  f219 := Try.func34.trans (congrArg some (by kernel_rfl))
  f224 := Try.func40.trans (congrArg some (by kernel_rfl))
  f225 := Try.func39.trans (congrArg some (by kernel_rfl))
  f266 := Try.func42.trans (congrArg some (by kernel_rfl))
  f267 := Try.func41.trans (congrArg some (by kernel_rfl))
  f314 := Try.func43.trans (congrArg some (by kernel_rfl))
  t3 := Try.underlying3
  a3 := Try.isAgg3
  z3 := Try.sizeOf3
  v3 := Try.zeroValue3
  t4 := Try.underlying4
  a4 := Try.isAgg4
  z4 := Try.sizeOf4
  v4 := Try.zeroValue4
  t5 := Try.underlying5
  a5 := Try.isAgg5
  z5 := Try.sizeOf5
  v5 := Try.zeroValue5
  t9 := Try.underlying9
  a9 := Try.isAgg9
  z9 := Try.sizeOf9
  v9 := Try.zeroValue9
  t46 := Try.underlying67
  a46 := Try.isAgg67
  z46 := Try.sizeOf67
  v46 := Try.zeroValue67
  t51 := Try.underlying69
  a51 := Try.isAgg69
  z51 := Try.sizeOf69
  v51 := Try.zeroValue69
  t146 := Try.underlying70
  a146 := Try.isAgg70
  z146 := Try.sizeOf70
  v146 := Try.zeroValue70
  g1 := by kernel_rfl
  i3 := by kernel_rfl
  i4 := by kernel_rfl
  i5 := by kernel_rfl
  i9 := by kernel_rfl
  i46 := by kernel_rfl
  i51 := by kernel_rfl
  i146 := by kernel_rfl
  m1 := by kernel_rfl
  s1_3 := fun w h => Go.Proofs.cell_of_shapedOpen_int (zero := #[.int .i64 0]) (t := 3) h (of_decide_eq_true (by kernel_rfl)) (by kernel_rfl) rfl (by kernel_rfl) (by kernel_rfl) Try.underlying3 }
open Go.RowKit Go.Lib in
theorem Try.strings_Contains_shaped (s sub : ByteArray) (w : World) (h : w.ShapedOpen Try.prog) (hs : s.size < 4294967281) :
    Calls Try.prog 23 #[.string s, .string sub] w fun e w' => e = .returned (.bool (Lib.contains s.data.toList sub.data.toList)) ∧ w' = w := Any.strings_Contains_shaped Try.laysM144 s sub w h hs
def Try.lays206_ren : Go.Shelf.Ren := ⟨fun | 206 => 31 | n => n, fun | 9 => 9 | 4 => 4 | 3 => 3 | n => n, fun | n => n⟩
theorem Try.lays206 : Go.Proofs.Lays.n206 Try.prog Try.lays206_ren := {
  mixed := by kernel_rfl
  f206 := Try.func31.trans (congrArg some (by kernel_rfl))
  t3 := Try.underlying3
  a3 := Try.isAgg3
  z3 := Try.sizeOf3
  v3 := Try.zeroValue3
  t4 := Try.underlying4
  a4 := Try.isAgg4
  z4 := Try.sizeOf4
  v4 := Try.zeroValue4
  t9 := Try.underlying9
  a9 := Try.isAgg9
  z9 := Try.sizeOf9
  v9 := Try.zeroValue9 }
open Go.RowKit Go.Lib in
/-- internal/stringslite.HasPrefix (what strings.HasPrefix calls). (LAID: no walk: one application.) -/
theorem Try.stringslite_HasPrefix (s p : ByteArray) (w : World) :
    Calls Try.prog 31 #[.string s, .string p] w fun e w' => e = .returned (.bool (Lib.hasPrefix s.data.toList p.data.toList)) ∧ w' = w := Any.stringslite_HasPrefix Try.lays206 s p w
def Try.lays99_ren : Go.Shelf.Ren := ⟨fun | 99 => 26 | 206 => 31 | n => n, fun | 9 => 9 | 4 => 4 | 3 => 3 | n => n, fun | n => n⟩
theorem Try.lays99 : Go.Proofs.Lays.n99 Try.prog Try.lays99_ren := {
  mixed := by kernel_rfl
  f99 := Try.func26.trans (congrArg some (by kernel_rfl))
  f206 := Try.func31.trans (congrArg some (by kernel_rfl))
  t3 := Try.underlying3
  a3 := Try.isAgg3
  z3 := Try.sizeOf3
  v3 := Try.zeroValue3
  t4 := Try.underlying4
  a4 := Try.isAgg4
  z4 := Try.sizeOf4
  v4 := Try.zeroValue4
  t9 := Try.underlying9
  a9 := Try.isAgg9
  z9 := Try.sizeOf9
  v9 := Try.zeroValue9 }
open Go.RowKit Go.Lib in
/-- strings.HasPrefix: "HasPrefix reports whether the string s begins with prefix.": IT RETURNS 'Lib.hasPrefix s prefix'; the world is as it was. (LAID: no walk: one application.) -/
theorem Try.strings_HasPrefix (s p : ByteArray) (w : World) :
    Calls Try.prog 26 #[.string s, .string p] w fun e w' => e = .returned (.bool (Lib.hasPrefix s.data.toList p.data.toList)) ∧ w' = w := Any.strings_HasPrefix Try.lays99 s p w
def Try.lays207_ren : Go.Shelf.Ren := ⟨fun | 207 => 32 | n => n, fun | 9 => 9 | 4 => 4 | 3 => 3 | n => n, fun | n => n⟩
theorem Try.lays207 : Go.Proofs.Lays.n207 Try.prog Try.lays207_ren := {
  mixed := by kernel_rfl
  f207 := Try.func32.trans (congrArg some (by kernel_rfl))
  t3 := Try.underlying3
  a3 := Try.isAgg3
  z3 := Try.sizeOf3
  v3 := Try.zeroValue3
  t4 := Try.underlying4
  a4 := Try.isAgg4
  z4 := Try.sizeOf4
  v4 := Try.zeroValue4
  t9 := Try.underlying9
  a9 := Try.isAgg9
  z9 := Try.sizeOf9
  v9 := Try.zeroValue9 }
open Go.RowKit Go.Lib in
/-- internal/stringslite.HasSuffix (what strings.HasSuffix calls). (LAID: no walk: one application.) -/
theorem Try.stringslite_HasSuffix (s p : ByteArray) (w : World) (hs : s.size ≤ 9223372036854775807) :
    Calls Try.prog 32 #[.string s, .string p] w fun e w' => e = .returned (.bool (Lib.hasSuffix s.data.toList p.data.toList)) ∧ w' = w := Any.stringslite_HasSuffix Try.lays207 s p w hs
def Try.lays100_ren : Go.Shelf.Ren := ⟨fun | 100 => 27 | 207 => 32 | n => n, fun | 9 => 9 | 4 => 4 | 3 => 3 | n => n, fun | n => n⟩
theorem Try.lays100 : Go.Proofs.Lays.n100 Try.prog Try.lays100_ren := {
  mixed := by kernel_rfl
  f100 := Try.func27.trans (congrArg some (by kernel_rfl))
  f207 := Try.func32.trans (congrArg some (by kernel_rfl))
  t3 := Try.underlying3
  a3 := Try.isAgg3
  z3 := Try.sizeOf3
  v3 := Try.zeroValue3
  t4 := Try.underlying4
  a4 := Try.isAgg4
  z4 := Try.sizeOf4
  v4 := Try.zeroValue4
  t9 := Try.underlying9
  a9 := Try.isAgg9
  z9 := Try.sizeOf9
  v9 := Try.zeroValue9 }
open Go.RowKit Go.Lib in
/-- strings.HasSuffix: "HasSuffix reports whether the string s ends with suffix.": IT RETURNS 'Lib.hasSuffix s suffix'; the world is as it was. ('hs': no Go string is longer: a caller has it of every string that it was handed.) (LAID: no walk: one application.) -/
theorem Try.strings_HasSuffix (s p : ByteArray) (w : World) (hs : s.size ≤ 9223372036854775807) :
    Calls Try.prog 27 #[.string s, .string p] w fun e w' => e = .returned (.bool (Lib.hasSuffix s.data.toList p.data.toList)) ∧ w' = w := Any.strings_HasSuffix Try.lays100 s p w hs
def Try.laysPa47_ren : Go.Shelf.Ren := ⟨fun | 47 => 36 | n => n, fun | 48 => 68 | 3 => 3 | 5 => 5 | 0 => 0 | 42 => 61 | 30 => 59 | 4 => 4 | 9 => 9 | n => n, fun | n => n⟩
theorem Try.laysPa47 : Go.Proofs.Lays.p47 Try.prog Try.laysPa47_ren := {
  mixed := by kernel_rfl
  f47 := Try.func36.trans (congrArg some (by kernel_rfl))
  t0 := Try.underlying0
  a0 := Try.isAgg0
  z0 := Try.sizeOf0
  v0 := Try.zeroValue0
  t3 := Try.underlying3
  a3 := Try.isAgg3
  z3 := Try.sizeOf3
  v3 := Try.zeroValue3
  t4 := Try.underlying4
  a4 := Try.isAgg4
  z4 := Try.sizeOf4
  v4 := Try.zeroValue4
  t5 := Try.underlying5
  a5 := Try.isAgg5
  z5 := Try.sizeOf5
  v5 := Try.zeroValue5
  t9 := Try.underlying9
  a9 := Try.isAgg9
  z9 := Try.sizeOf9
  v9 := Try.zeroValue9
  t30 := Try.underlying59
  a30 := Try.isAgg59
  z30 := Try.sizeOf59
  v30 := Try.zeroValue59
  t42 := Try.underlying61
  a42 := Try.isAgg61
  z42 := Try.sizeOf61
  v42 := Try.zeroValue61
  t48 := Try.underlying68
  a48 := Try.isAgg68
  z48 := Try.sizeOf68
  v48 := Try.zeroValue68 }
open Go.RowKit Go.Lib in
/-- (*path.lazybuf).index: the byte at place i of what the buffer reads ('c'); the world is as it was. (LAID: no walk: one application.) -/
theorem Try.lazybuf_index (B : Nat) (s : ByteArray) (c : List UInt8) (wv i : Nat) (w : World) (hz : Lz.Lazy 61 5 B s c wv w) (hi : i < s.size) :
    Calls Try.prog 36 #[.pointer (some ⟨B, 0, none⟩), .int .i64 i] w fun e w' => e = .returned (.int .u8 ((c[i]?.getD 0).toNat : Int)) ∧ w' = w := Any.lazybuf_index Try.laysPa47 B s c wv i w hz hi
def Try.laysPa48_ren : Go.Shelf.Ren := ⟨fun | 48 => 37 | n => n, fun | 48 => 68 | 9 => 9 | 0 => 0 | 42 => 61 | 30 => 59 | 4 => 4 | 3 => 3 | 5 => 5 | n => n, fun | n => n⟩
theorem Try.laysPa48 : Go.Proofs.Lays.p48 Try.prog Try.laysPa48_ren := {
  mixed := by kernel_rfl
  f48 := Try.func37.trans (congrArg some (by kernel_rfl))
  t0 := Try.underlying0
  a0 := Try.isAgg0
  z0 := Try.sizeOf0
  v0 := Try.zeroValue0
  t3 := Try.underlying3
  a3 := Try.isAgg3
  z3 := Try.sizeOf3
  v3 := Try.zeroValue3
  t4 := Try.underlying4
  a4 := Try.isAgg4
  z4 := Try.sizeOf4
  v4 := Try.zeroValue4
  t5 := Try.underlying5
  a5 := Try.isAgg5
  z5 := Try.sizeOf5
  v5 := Try.zeroValue5
  t9 := Try.underlying9
  a9 := Try.isAgg9
  z9 := Try.sizeOf9
  v9 := Try.zeroValue9
  t30 := Try.underlying59
  a30 := Try.isAgg59
  z30 := Try.sizeOf59
  v30 := Try.zeroValue59
  t42 := Try.underlying61
  a42 := Try.isAgg61
  z42 := Try.sizeOf61
  v42 := Try.zeroValue61
  t48 := Try.underlying68
  a48 := Try.isAgg68
  z48 := Try.sizeOf68
  v48 := Try.zeroValue68 }
open Go.RowKit Go.Lib in
/-- (*path.lazybuf).string: what has been appended, as a string; the world is as it was but for the count of draws. (LAID: no walk: one application.) -/
theorem Try.lazybuf_string (B : Nat) (s : ByteArray) (c : List UInt8) (wv : Nat) (w : World) (hz : Lz.Lazy 61 5 B s c wv w) (hw : wv ≤ s.size) :
    Calls Try.prog 37 #[.pointer (some ⟨B, 0, none⟩)] w fun e w' => e = .returned (.string ⟨(c.take wv).toArray⟩) ∧ ∃ n, w' = w.drewN n := Any.lazybuf_string Try.laysPa48 B s c wv w hz hw
def Try.laysPah46_ren : Go.Shelf.Ren := ⟨fun | 46 => 35 | n => n, fun | 48 => 68 | 5 => 5 | 0 => 0 | 42 => 61 | 30 => 59 | 4 => 4 | 3 => 3 | 9 => 9 | n => n, fun | n => n⟩
theorem Try.laysPah46 : Go.Proofs.Lays.ph46 Try.prog Try.laysPah46_ren := {
  mixed := by kernel_rfl
  f46 := Try.func35.trans (congrArg some (by kernel_rfl))
  t0 := Try.underlying0
  a0 := Try.isAgg0
  z0 := Try.sizeOf0
  v0 := Try.zeroValue0
  t3 := Try.underlying3
  a3 := Try.isAgg3
  z3 := Try.sizeOf3
  v3 := Try.zeroValue3
  t4 := Try.underlying4
  a4 := Try.isAgg4
  z4 := Try.sizeOf4
  v4 := Try.zeroValue4
  t5 := Try.underlying5
  a5 := Try.isAgg5
  z5 := Try.sizeOf5
  v5 := Try.zeroValue5
  t9 := Try.underlying9
  a9 := Try.isAgg9
  z9 := Try.sizeOf9
  v9 := Try.zeroValue9
  t30 := Try.underlying59
  a30 := Try.isAgg59
  z30 := Try.sizeOf59
  v30 := Try.zeroValue59
  t42 := Try.underlying61
  a42 := Try.isAgg61
  z42 := Try.sizeOf61
  v42 := Try.zeroValue61
  t48 := Try.underlying68
  a48 := Try.isAgg68
  z48 := Try.sizeOf68
  v48 := Try.zeroValue68
  info5 := by kernel_rfl }
open Go.RowKit Go.Lib in
/-- (*path.lazybuf).append, wherever there is room ('w < len(s)'): THE BUFFER THEN READS SOME c' WHOSE FIRST w + 1 BYTES ARE WHAT HAD BEEN APPENDED, AND x; below block B the world is as it was. (All three ways of the text: the byte is s's own next byte · the output parts from s here: 'make', 'copy' · the buffer is there already.) (LAID: no walk: one application.) -/
theorem Try.lazybuf_append (B : Nat) (s : ByteArray) (c : List UInt8) (wv : Nat) (x : UInt8) (w : World) (hz : Lz.Lazy 61 5 B s c wv w) (hw : wv < s.size) (hbig : s.size ≤ 281474976710656) :
    Calls Try.prog 35 #[.pointer (some ⟨B, 0, none⟩), .int .u8 (x.toNat : Int)] w fun e w' => e = .returned (.tuple #[]) ∧ ∃ c', Lz.Lazy 61 5 B s c' (wv + 1) w' ∧ c'.take (wv + 1) = c.take wv ++ [x] ∧ Below B w w' := Any.lazybuf_append Try.laysPah46 B s c wv x w hz hw hbig
open Go.RowKit Go.Lib in
/-- append at the slash and at the dot, as path.Clean calls it. (LAID: no walk: one application.) -/
theorem Try.lazybuf_append47 (B : Nat) (s : ByteArray) (c : List UInt8) (wv : Nat) (w : World) (hz : Lz.Lazy 61 5 B s c wv w) (hw : wv < s.size) (hbig : s.size ≤ 281474976710656) :
    Calls Try.prog 35 #[.pointer (some ⟨B, 0, none⟩), .int .u8 47] w fun e w' => e = .returned (.tuple #[]) ∧ ∃ c', Lz.Lazy 61 5 B s c' (wv + 1) w' ∧ c'.take (wv + 1) = c.take wv ++ [47] ∧ Below B w w' := Any.lazybuf_append47 Try.laysPah46 B s c wv w hz hw hbig
open Go.RowKit Go.Lib in
theorem Try.lazybuf_append46 (B : Nat) (s : ByteArray) (c : List UInt8) (wv : Nat) (w : World) (hz : Lz.Lazy 61 5 B s c wv w) (hw : wv < s.size) (hbig : s.size ≤ 281474976710656) :
    Calls Try.prog 35 #[.pointer (some ⟨B, 0, none⟩), .int .u8 46] w fun e w' => e = .returned (.tuple #[]) ∧ ∃ c', Lz.Lazy 61 5 B s c' (wv + 1) w' ∧ c'.take (wv + 1) = c.take wv ++ [46] ∧ Below B w w' := Any.lazybuf_append46 Try.laysPah46 B s c wv w hz hw hbig
def Try.laysPah30_ren : Go.Shelf.Ren := ⟨fun | 30 => 30 | 46 => 35 | 47 => 36 | 48 => 37 | n => n, fun | 9 => 9 | 4 => 4 | 5 => 5 | 3 => 3 | 42 => 61 | 0 => 0 | 48 => 68 | 30 => 59 | n => n, fun | n => n⟩
theorem Try.laysPah30 : Go.Proofs.Lays.ph30 Try.prog Try.laysPah30_ren := {
  mixed := by kernel_rfl
  f30 := Try.func30.trans (congrArg some (by kernel_rfl))
  f46 := Try.func35.trans (congrArg some (by kernel_rfl))
  f47 := Try.func36.trans (congrArg some (by kernel_rfl))
  f48 := Try.func37.trans (congrArg some (by kernel_rfl))
  t0 := Try.underlying0
  a0 := Try.isAgg0
  z0 := Try.sizeOf0
  v0 := Try.zeroValue0
  t3 := Try.underlying3
  a3 := Try.isAgg3
  z3 := Try.sizeOf3
  v3 := Try.zeroValue3
  t4 := Try.underlying4
  a4 := Try.isAgg4
  z4 := Try.sizeOf4
  v4 := Try.zeroValue4
  t5 := Try.underlying5
  a5 := Try.isAgg5
  z5 := Try.sizeOf5
  v5 := Try.zeroValue5
  t9 := Try.underlying9
  a9 := Try.isAgg9
  z9 := Try.sizeOf9
  v9 := Try.zeroValue9
  t30 := Try.underlying59
  a30 := Try.isAgg59
  z30 := Try.sizeOf59
  v30 := Try.zeroValue59
  t42 := Try.underlying61
  a42 := Try.isAgg61
  z42 := Try.sizeOf61
  v42 := Try.zeroValue61
  t48 := Try.underlying68
  a48 := Try.isAgg68
  z48 := Try.sizeOf68
  v48 := Try.zeroValue68
  info5 := by kernel_rfl }
open Go.RowKit Go.Lib in
theorem Try.path_Clean_rel (s : ByteArray) (w : World) (hbig : s.size ≤ 281474976710656) (h0 : 0 < s.size) (hro : (s[0]'h0) ≠ 47) (R RR : List UInt8) (hR : Pa.cleanLoop s.data.toList false s.data.toList.length [] 0 0 = R) (hRR : (if R = [] then [46] else R) = RR) :
    Calls Try.prog 30 #[.string s] w fun e w' => e = .returned (.string ⟨RR.toArray⟩) ∧ Below w.heap.size w w' := Any.path_Clean_rel Try.laysPah30 s w hbig h0 hro R RR hR hRR
open Go.RowKit Go.Lib in
theorem Try.path_Clean_abs (s : ByteArray) (w : World) (hbig : s.size ≤ 281474976710656) (h0 : 0 < s.size) (hro : (s[0]'h0) = 47) (R RR : List UInt8) (hR : Pa.cleanLoop s.data.toList true s.data.toList.length [47] 1 1 = R) (hRR : (if R = [] then [46] else R) = RR) :
    Calls Try.prog 30 #[.string s] w fun e w' => e = .returned (.string ⟨RR.toArray⟩) ∧ Below w.heap.size w w' := Any.path_Clean_abs Try.laysPah30 s w hbig h0 hro R RR hR hRR
open Go.RowKit Go.Lib in
/-- path.Clean: "Clean returns the shortest path name equivalent to path by purely lexical processing. It applies the following rules iteratively until no further processing can be done: 1. Replace multiple slashes with a single slash. 2. Eliminate each . path name element (the current directory). 3. Eliminate each inner .. path name element (the parent directory) along with the non-.. element that precedes it. 4. Eliminate .. elements that begin a rooted path: that is, replace "/.." by "/" at the beginning of a path. The returned path ends in a slash only if it is the root "/". If the result of this process is an empty string, Clean returns the string ".".": IT RETURNS 'Pa.clean path'. (LAID: no walk: one application.) -/
theorem Try.path_Clean (s : ByteArray) (w : World) (hbig : s.size ≤ 281474976710656) :
    Calls Try.prog 30 #[.string s] w fun e w' => e = .returned (.string ⟨(Pa.clean s.data.toList).toArray⟩) ∧ Below w.heap.size w w' := Any.path_Clean Try.laysPah30 s w hbig
open Go.RowKit Go.Lib in
theorem Try.path_Clean_rules (s : ByteArray) (w : World) (hbig : s.size ≤ 281474976710656) :
    Calls Try.prog 30 #[.string s] w fun e w' => e = .returned (.string ⟨(Pa.cleanEls s.data.toList).toArray⟩) ∧ Below w.heap.size w w' := Any.path_Clean_rules Try.laysPah30 s w hbig
end Go.Proofs
