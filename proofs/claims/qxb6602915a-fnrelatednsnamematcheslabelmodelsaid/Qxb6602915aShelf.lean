/-
  DERIVED: THE SHELF's CONTRACTS AT THIS DUMP, IN PLAIN WORDS (tools/lay-plain.mjs out of 'TryShelf.lean', which tools/lay-shelf.mjs wrote): THE SAME DECLARATIONS UNDER THE SAME NAMES: 'import', 'namespace', 'open', 'def', 'theorem' AND NOTHING ELSE: no command of the shelf's: FOR A HAND-IN. Each laying: the table of numbers ('.._ren') and one theorem, a field a fact of the dump's own or the kernel's comparison; each contract: ONE APPLICATION.
-/
import Derived.Shelf.Small.Wraps
import Derived.Shelf.Strings.Search1
import Derived.Shelf.Strings.Search2
import Derived.Shelf.Strings.Search3
import Derived.Shelf.Strings.Count
import Derived.Shelf.LaysM
import Derived.Shelf.Strings.Shaped
import Derived.Shelf.Strings.Prefix
import Derived.Test.Qxb6602915aProg
namespace Go.Proofs
open Go.Shelf
def Try.lays211_ren : Go.Shelf.Ren := ⟨fun | 211 => 21 | 207 => 22 | n => n, fun | 9 => 9 | 4 => 4 | 3 => 3 | n => n, fun | n => n⟩
theorem Try.lays211 : Go.Proofs.Lays.n211 Try.prog Try.lays211_ren := {
  mixed := by kernel_rfl
  f207 := Try.func22.trans (congrArg some (by kernel_rfl))
  f211 := Try.func21.trans (congrArg some (by kernel_rfl))
  t3 := Try.underlying3
  a3 := Try.isAgg3
  z3 := Try.sizeOf3
  v3 := Try.zeroValue3
  t4 := Try.underlying4
  a4 := Try.isAgg4
  z4 := Try.sizeOf4
  v4 := Try.zeroValue4
  t9 := Try.underlying9
  a9 := Try.isAgg9
  z9 := Try.sizeOf9
  v9 := Try.zeroValue9 }
open Go.RowKit in
/-- internal/stringslite.CutSuffix (what strings.CutSuffix calls). (LAID: no walk: one application.) -/
theorem Try.stringslite_CutSuffix (s p : ByteArray) (w : World) (hs : s.size ≤ 9223372036854775807) :
    Calls Try.prog 21 #[.string s, .string p] w fun e w' => e = .returned (.tuple #[.string ⟨(Lib.trimSuffix s.data.toList p.data.toList).toArray⟩, .bool (Lib.hasSuffix s.data.toList p.data.toList)]) ∧ w' = w := Any.stringslite_CutSuffix Try.lays211 s p w hs
def Try.lays104_ren : Go.Shelf.Ren := ⟨fun | 104 => 16 | 211 => 21 | 207 => 22 | n => n, fun | 9 => 9 | 4 => 4 | 24 => 46 | 3 => 3 | n => n, fun | n => n⟩
theorem Try.lays104 : Go.Proofs.Lays.n104 Try.prog Try.lays104_ren := {
  mixed := by kernel_rfl
  f104 := Try.func16.trans (congrArg some (by kernel_rfl))
  f207 := Try.func22.trans (congrArg some (by kernel_rfl))
  f211 := Try.func21.trans (congrArg some (by kernel_rfl))
  t3 := Try.underlying3
  a3 := Try.isAgg3
  z3 := Try.sizeOf3
  v3 := Try.zeroValue3
  t4 := Try.underlying4
  a4 := Try.isAgg4
  z4 := Try.sizeOf4
  v4 := Try.zeroValue4
  t9 := Try.underlying9
  a9 := Try.isAgg9
  z9 := Try.sizeOf9
  v9 := Try.zeroValue9
  t24 := Try.underlying46
  a24 := Try.isAgg46
  z24 := Try.sizeOf46
  v24 := Try.zeroValue46 }
open Go.RowKit in
/-- strings.CutSuffix: "CutSuffix returns s without the provided ending suffix string and reports whether it found the suffix. If s doesn't end with suffix, CutSuffix returns s, false. If suffix is the empty string, CutSuffix returns s, true.": IT RETURNS '(Lib.trimSuffix s p, Lib.hasSuffix s p)'; the world is as it was. (LAID: no walk: one application.) -/
theorem Try.strings_CutSuffix (s p : ByteArray) (w : World) (hs : s.size ≤ 9223372036854775807) :
    Calls Try.prog 16 #[.string s, .string p] w fun e w' => e = .returned (.tuple #[.string ⟨(Lib.trimSuffix s.data.toList p.data.toList).toArray⟩, .bool (Lib.hasSuffix s.data.toList p.data.toList)]) ∧ w' = w := Any.strings_CutSuffix Try.lays104 s p w hs
def Try.lays217_ren : Go.Shelf.Ren := ⟨fun | 217 => 24 | 266 => 28 | n => n, fun | 9 => 9 | 5 => 5 | 3 => 3 | n => n, fun | n => n⟩
theorem Try.lays217 : Go.Proofs.Lays.n217 Try.prog Try.lays217_ren := {
  mixed := by kernel_rfl
  f217 := Try.func24.trans (congrArg some (by kernel_rfl))
  f266 := Try.func28.trans (congrArg some (by kernel_rfl))
  t3 := Try.underlying3
  a3 := Try.isAgg3
  z3 := Try.sizeOf3
  v3 := Try.zeroValue3
  t5 := Try.underlying5
  a5 := Try.isAgg5
  z5 := Try.sizeOf5
  v5 := Try.zeroValue5
  t9 := Try.underlying9
  a9 := Try.isAgg9
  z9 := Try.sizeOf9
  v9 := Try.zeroValue9 }
open Go.RowKit Go.Lib in
/-- internal/stringslite.IndexByte (what strings.IndexByte calls): IT RETURNS 'Lib.indexByte s c'; the world is as it was. (LAID: no walk: one application.) -/
theorem Try.stringslite_IndexByte (s : ByteArray) (c : Int) (w : World) :
    Calls Try.prog 24 #[.string s, .int .u8 c] w fun e w' => e = .returned (.int .i64 (Lib.indexByte s.data.toList c.toNat.toUInt8)) ∧ w' = w := Any.stringslite_IndexByte Try.lays217 s c w
def Try.lays224_ren : Go.Shelf.Ren := ⟨fun | 224 => 26 | n => n, fun | 3 => 3 | n => n, fun | n => n⟩
theorem Try.lays224 : Go.Proofs.Lays.n224 Try.prog Try.lays224_ren := {
  mixed := by kernel_rfl
  f224 := Try.func26.trans (congrArg some (by kernel_rfl))
  t3 := Try.underlying3
  a3 := Try.isAgg3
  z3 := Try.sizeOf3
  v3 := Try.zeroValue3 }
open Go.RowKit Go.Lib in
/-- internal/bytealg.Cutover: "Cutover reports the number of failures of IndexByte we should tolerate before switching over to Index. n is the number of bytes processed so far.": on amd64: (n + 16) / 8. (LAID: no walk: one application.) -/
theorem Try.bytealg_Cutover (n : Int) (h0 : 0 ≤ n) (h1 : n < 4611686018427387904) (w : World) :
    Calls Try.prog 26 #[.int .i64 n] w fun e w' => e = .returned (.int .i64 ((n + 16) / 8)) ∧ w' = w := Any.bytealg_Cutover Try.lays224 n h0 h1 w
def Try.lays314_ren : Go.Shelf.Ren := ⟨fun | 314 => 29 | n => n, fun | 9 => 9 | 51 => 52 | 3 => 3 | 4 => 4 | 5 => 5 | 46 => 51 | n => n, fun | n => n⟩
theorem Try.lays314 : Go.Proofs.Lays.n314 Try.prog Try.lays314_ren := {
  mixed := by kernel_rfl
  f314 := Try.func29.trans (congrArg some (by kernel_rfl))
  t3 := Try.underlying3
  a3 := Try.isAgg3
  z3 := Try.sizeOf3
  v3 := Try.zeroValue3
  t4 := Try.underlying4
  a4 := Try.isAgg4
  z4 := Try.sizeOf4
  v4 := Try.zeroValue4
  t5 := Try.underlying5
  a5 := Try.isAgg5
  z5 := Try.sizeOf5
  v5 := Try.zeroValue5
  t9 := Try.underlying9
  a9 := Try.isAgg9
  z9 := Try.sizeOf9
  v9 := Try.zeroValue9
  t46 := Try.underlying51
  a46 := Try.isAgg51
  z46 := Try.sizeOf51
  v46 := Try.zeroValue51
  t51 := Try.underlying52
  a51 := Try.isAgg52
  z51 := Try.sizeOf52
  v51 := Try.zeroValue52 }
open Go.RowKit Go.Lib in
/-- hashStr: "returns the hash and the appropriate multiplicative factor for use in Rabin-Karp algorithm": THE HASH OF ALL OF sep, AND 16777619 ^ len(sep), both in uint32. (LAID: no walk: one application.) -/
theorem Try.bytealg_hashStr (sep : ByteArray) (hs : sep.size < 4294967281) (w : World) :
    Calls Try.prog 29 #[.string sep] w fun e w' => e = .returned (.tuple #[.int .u32 (RK.H sep.data.toList % 4294967296), .int .u32 (16777619 ^ sep.size % 4294967296)]) ∧ w' = w := Any.bytealg_hashStr Try.lays314 sep hs w
def Try.lays267_ren : Go.Shelf.Ren := ⟨fun | 267 => 27 | 314 => 29 | n => n, fun | 9 => 9 | 3 => 3 | 146 => 53 | 51 => 52 | 4 => 4 | 5 => 5 | 46 => 51 | n => n, fun | n => n⟩
theorem Try.lays267 : Go.Proofs.Lays.n267 Try.prog Try.lays267_ren := {
  mixed := by kernel_rfl
  f267 := Try.func27.trans (congrArg some (by kernel_rfl))
  f314 := Try.func29.trans (congrArg some (by kernel_rfl))
  t3 := Try.underlying3
  a3 := Try.isAgg3
  z3 := Try.sizeOf3
  v3 := Try.zeroValue3
  t4 := Try.underlying4
  a4 := Try.isAgg4
  z4 := Try.sizeOf4
  v4 := Try.zeroValue4
  t5 := Try.underlying5
  a5 := Try.isAgg5
  z5 := Try.sizeOf5
  v5 := Try.zeroValue5
  t9 := Try.underlying9
  a9 := Try.isAgg9
  z9 := Try.sizeOf9
  v9 := Try.zeroValue9
  t46 := Try.underlying51
  a46 := Try.isAgg51
  z46 := Try.sizeOf51
  v46 := Try.zeroValue51
  t51 := Try.underlying52
  a51 := Try.isAgg52
  z51 := Try.sizeOf52
  v51 := Try.zeroValue52
  t146 := Try.underlying53
  a146 := Try.isAgg53
  z146 := Try.sizeOf53
  v146 := Try.zeroValue53 }
open Go.RowKit Go.Lib in
theorem Try.bytealg_IndexRabinKarp (s sep : ByteArray) (h1 : 1 ≤ sep.size) (h2 : sep.size ≤ s.size) (hs : s.size < 4294967281) (w : World) :
    Calls Try.prog 27 #[.string s, .string sep] w fun e w' => e = .returned (.int .i64 (Lib.index s.data.toList sep.data.toList)) ∧ w' = w := Any.bytealg_IndexRabinKarp Try.lays267 s sep h1 h2 hs w
def Try.lays219_ren : Go.Shelf.Ren := ⟨fun | 219 => 23 | 217 => 24 | 225 => 25 | 224 => 26 | 267 => 27 | 266 => 28 | 314 => 29 | n => n, fun | 9 => 9 | 3 => 3 | 4 => 4 | 5 => 5 | 46 => 51 | 146 => 53 | 51 => 52 | n => n, fun | 1 => 0 | n => n⟩
theorem Try.lays219 : Go.Proofs.Lays.n219 Try.prog Try.lays219_ren := {
  mixed := by kernel_rfl
  f217 := Try.func24.trans (congrArg some (by kernel_rfl))
  f219 := Try.func23.trans (congrArg some (by kernel_rfl))
  f224 := Try.func26.trans (congrArg some (by kernel_rfl))
  f225 := Try.func25.trans (congrArg some (by kernel_rfl))
  f266 := Try.func28.trans (congrArg some (by kernel_rfl))
  f267 := Try.func27.trans (congrArg some (by kernel_rfl))
  f314 := Try.func29.trans (congrArg some (by kernel_rfl))
  t3 := Try.underlying3
  a3 := Try.isAgg3
  z3 := Try.sizeOf3
  v3 := Try.zeroValue3
  t4 := Try.underlying4
  a4 := Try.isAgg4
  z4 := Try.sizeOf4
  v4 := Try.zeroValue4
  t5 := Try.underlying5
  a5 := Try.isAgg5
  z5 := Try.sizeOf5
  v5 := Try.zeroValue5
  t9 := Try.underlying9
  a9 := Try.isAgg9
  z9 := Try.sizeOf9
  v9 := Try.zeroValue9
  t46 := Try.underlying51
  a46 := Try.isAgg51
  z46 := Try.sizeOf51
  v46 := Try.zeroValue51
  t51 := Try.underlying52
  a51 := Try.isAgg52
  z51 := Try.sizeOf52
  v51 := Try.zeroValue52
  t146 := Try.underlying53
  a146 := Try.isAgg53
  z146 := Try.sizeOf53
  v146 := Try.zeroValue53
  g1 := by kernel_rfl }
open Go.RowKit Go.Lib in
/-- internal/stringslite.Index (what strings.Index calls) AT A substr OF ONE BYTE c: IT RETURNS 'Lib.indexByte s c'; the world is as it was. (LAID: no walk: one application.) -/
theorem Try.stringslite_Index_one (s : ByteArray) (c : UInt8) (w : World) :
    Calls Try.prog 23 #[.string s, .string ⟨#[c]⟩] w fun e w' => e = .returned (.int .i64 (Lib.indexByte s.data.toList c)) ∧ w' = w := Any.stringslite_Index_one Try.lays219 s c w
open Go.RowKit Go.Lib in
/-- internal/stringslite.Index (what strings.Index calls) AT A substr OF WHATEVER LENGTH: IT RETURNS 'Lib.index s substr'; the world is as it was. 'm': what internal/bytealg.MaxLen holds: whatever. (LAID: no walk: one application.) -/
theorem Try.stringslite_Index (s sub : ByteArray) (m : Int) (w : World) (hs : s.size < 4294967281) (hm : w.cell? ⟨0, 0, none⟩ = some (.int .i64 m)) :
    Calls Try.prog 23 #[.string s, .string sub] w fun e w' => e = .returned (.int .i64 (Lib.index s.data.toList sub.data.toList)) ∧ w' = w := Any.stringslite_Index Try.lays219 s sub m w hs hm
def Try.lays143_ren : Go.Shelf.Ren := ⟨fun | 143 => 20 | 219 => 23 | 217 => 24 | 225 => 25 | 224 => 26 | 267 => 27 | 266 => 28 | 314 => 29 | n => n, fun | 9 => 9 | 3 => 3 | 4 => 4 | 5 => 5 | 46 => 51 | 146 => 53 | 51 => 52 | n => n, fun | 1 => 0 | n => n⟩
theorem Try.lays143 : Go.Proofs.Lays.n143 Try.prog Try.lays143_ren := {
  mixed := by kernel_rfl
  f143 := Try.func20.trans (congrArg some (by kernel_rfl))
  f217 := Try.func24.trans (congrArg some (by kernel_rfl))
  f219 := Try.func23.trans (congrArg some (by kernel_rfl))
  f224 := Try.func26.trans (congrArg some (by kernel_rfl))
  f225 := Try.func25.trans (congrArg some (by kernel_rfl))
  f266 := Try.func28.trans (congrArg some (by kernel_rfl))
  f267 := Try.func27.trans (congrArg some (by kernel_rfl))
  f314 := Try.func29.trans (congrArg some (by kernel_rfl))
  t3 := Try.underlying3
  a3 := Try.isAgg3
  z3 := Try.sizeOf3
  v3 := Try.zeroValue3
  t4 := Try.underlying4
  a4 := Try.isAgg4
  z4 := Try.sizeOf4
  v4 := Try.zeroValue4
  t5 := Try.underlying5
  a5 := Try.isAgg5
  z5 := Try.sizeOf5
  v5 := Try.zeroValue5
  t9 := Try.underlying9
  a9 := Try.isAgg9
  z9 := Try.sizeOf9
  v9 := Try.zeroValue9
  t46 := Try.underlying51
  a46 := Try.isAgg51
  z46 := Try.sizeOf51
  v46 := Try.zeroValue51
  t51 := Try.underlying52
  a51 := Try.isAgg52
  z51 := Try.sizeOf52
  v51 := Try.zeroValue52
  t146 := Try.underlying53
  a146 := Try.isAgg53
  z146 := Try.sizeOf53
  v146 := Try.zeroValue53
  g1 := by kernel_rfl }
open Go.RowKit Go.Lib in
/-- strings.Index: "Index returns the index of the first instance of substr in s, or -1 if substr is not present in s.": AT A substr OF ONE BYTE c: IT RETURNS 'Lib.indexByte s c'; the world is as it was. (LAID: no walk: one application.) -/
theorem Try.strings_Index_one (s : ByteArray) (c : UInt8) (w : World) :
    Calls Try.prog 20 #[.string s, .string ⟨#[c]⟩] w fun e w' => e = .returned (.int .i64 (Lib.indexByte s.data.toList c)) ∧ w' = w := Any.strings_Index_one Try.lays143 s c w
open Go.RowKit Go.Lib in
/-- strings.Index: "Index returns the index of the first instance of substr in s, or -1 if substr is not present in s.": IT RETURNS 'Lib.index s substr'; the world is as it was. (LAID: no walk: one application.) -/
theorem Try.strings_Index (s sub : ByteArray) (m : Int) (w : World) (hs : s.size < 4294967281) (hm : w.cell? ⟨0, 0, none⟩ = some (.int .i64 m)) :
    Calls Try.prog 20 #[.string s, .string sub] w fun e w' => e = .returned (.int .i64 (Lib.index s.data.toList sub.data.toList)) ∧ w' = w := Any.strings_Index Try.lays143 s sub m w hs hm
def Try.lays138_ren : Go.Shelf.Ren := ⟨fun | 138 => 15 | 195 => 18 | 218 => 19 | 143 => 20 | 219 => 23 | 217 => 24 | 225 => 25 | 224 => 26 | 267 => 27 | 266 => 28 | 314 => 29 | n => n, fun | 9 => 9 | 3 => 3 | 4 => 4 | 5 => 5 | 0 => 0 | 46 => 51 | 146 => 53 | 51 => 52 | n => n, fun | 1 => 0 | n => n⟩
theorem Try.lays138 : Go.Proofs.Lays.n138 Try.prog Try.lays138_ren := {
  mixed := by kernel_rfl
  f138 := Try.func15.trans (congrArg some (by kernel_rfl))
  f143 := Try.func20.trans (congrArg some (by kernel_rfl))
  f195 := Try.func18.trans (congrArg some (by kernel_rfl))
  f217 := Try.func24.trans (congrArg some (by kernel_rfl))
  f218 := Try.func19.trans (congrArg some (by kernel_rfl))
  f219 := Try.func23.trans (congrArg some (by kernel_rfl))
  f224 := Try.func26.trans (congrArg some (by kernel_rfl))
  f225 := Try.func25.trans (congrArg some (by kernel_rfl))
  f266 := Try.func28.trans (congrArg some (by kernel_rfl))
  f267 := Try.func27.trans (congrArg some (by kernel_rfl))
  f314 := Try.func29.trans (congrArg some (by kernel_rfl))
  t0 := Try.underlying0
  a0 := Try.isAgg0
  z0 := Try.sizeOf0
  v0 := Try.zeroValue0
  t3 := Try.underlying3
  a3 := Try.isAgg3
  z3 := Try.sizeOf3
  v3 := Try.zeroValue3
  t4 := Try.underlying4
  a4 := Try.isAgg4
  z4 := Try.sizeOf4
  v4 := Try.zeroValue4
  t5 := Try.underlying5
  a5 := Try.isAgg5
  z5 := Try.sizeOf5
  v5 := Try.zeroValue5
  t9 := Try.underlying9
  a9 := Try.isAgg9
  z9 := Try.sizeOf9
  v9 := Try.zeroValue9
  t46 := Try.underlying51
  a46 := Try.isAgg51
  z46 := Try.sizeOf51
  v46 := Try.zeroValue51
  t51 := Try.underlying52
  a51 := Try.isAgg52
  z51 := Try.sizeOf52
  v51 := Try.zeroValue52
  t146 := Try.underlying53
  a146 := Try.isAgg53
  z146 := Try.sizeOf53
  v146 := Try.zeroValue53
  g1 := by kernel_rfl }
open Go.RowKit Go.Lib in
/-- strings.Count AT A substr OF ONE BYTE ('hp'): "Count counts the number of non-overlapping instances of substr in s.": IT RETURNS 'Lib.countByte s (that byte)'; the world is as it was. ✋ NO CONTRACT HERE YET at an empty substr (utf8.RuneCountInString) or at a longer one (a loop over strings.Index). (LAID: no walk: one application.) -/
theorem Try.strings_Count_one (s : ByteArray) (c : UInt8) (w : World) :
    Calls Try.prog 15 #[.string s, .string ⟨#[c]⟩] w fun e w' => e = .returned (.int .i64 (Lib.countByte s.data.toList c)) ∧ w' = w := Any.strings_Count_one Try.lays138 s c w
open Go.RowKit Go.Lib in
/-- strings.Count AT A substr OF TWO BYTES OR MORE: "Count counts the number of non-overlapping instances of substr in s.": IT RETURNS 'Lib.count s substr'; the world is as it was. (LAID: no walk: one application.) -/
theorem Try.strings_Count (s sub : ByteArray) (m : Int) (w : World) (hs : s.size < 4294967281) (hm : w.cell? ⟨0, 0, none⟩ = some (.int .i64 m)) (h2 : 2 ≤ sub.size) :
    Calls Try.prog 15 #[.string s, .string sub] w fun e w' => e = .returned (.int .i64 (Lib.countB s sub)) ∧ w' = w := Any.strings_Count Try.lays138 s sub m w hs hm h2
def Try.laysM219_ren : Go.Shelf.Ren := ⟨fun | 219 => 23 | 217 => 24 | 225 => 25 | 224 => 26 | 267 => 27 | 266 => 28 | 314 => 29 | n => n, fun | 9 => 9 | 3 => 3 | 4 => 4 | 5 => 5 | 46 => 51 | 146 => 53 | 51 => 52 | n => n, fun | 1 => 0 | n => n⟩
theorem Try.laysM219 : Go.Proofs.LaysM.n219 Try.prog Try.laysM219_ren := {
  mixed := by kernel_rfl
  f217 := Try.func24.trans (congrArg some (by kernel_rfl))
  f219 := Try.func23.trans (congrArg some (by kernel_rfl))
  f224 := Try.func26.trans (congrArg some (by kernel_rfl))
  f225 := Try.func25.trans (congrArg some (by kernel_rfl))
  f266 := Try.func28.trans (congrArg some (by kernel_rfl))
  f267 := Try.func27.trans (congrArg some (by kernel_rfl))
  f314 := Try.func29.trans (congrArg some (by kernel_rfl))
  t3 := Try.underlying3
  a3 := Try.isAgg3
  z3 := Try.sizeOf3
  v3 := Try.zeroValue3
  t4 := Try.underlying4
  a4 := Try.isAgg4
  z4 := Try.sizeOf4
  v4 := Try.zeroValue4
  t5 := Try.underlying5
  a5 := Try.isAgg5
  z5 := Try.sizeOf5
  v5 := Try.zeroValue5
  t9 := Try.underlying9
  a9 := Try.isAgg9
  z9 := Try.sizeOf9
  v9 := Try.zeroValue9
  t46 := Try.underlying51
  a46 := Try.isAgg51
  z46 := Try.sizeOf51
  v46 := Try.zeroValue51
  t51 := Try.underlying52
  a51 := Try.isAgg52
  z51 := Try.sizeOf52
  v51 := Try.zeroValue52
  t146 := Try.underlying53
  a146 := Try.isAgg53
  z146 := Try.sizeOf53
  v146 := Try.zeroValue53
  g1 := by kernel_rfl
  i3 := by kernel_rfl
  i4 := by kernel_rfl
  i5 := by kernel_rfl
  i9 := by kernel_rfl
  i46 := by kernel_rfl
  i51 := by kernel_rfl
  i146 := by kernel_rfl
  m1 := by kernel_rfl
  s1_3 := fun w h => Go.Proofs.cell_of_shapedOpen_int (zero := #[.int .i64 0]) (t := 3) h (of_decide_eq_true (by kernel_rfl)) (by kernel_rfl) rfl (by kernel_rfl) (by kernel_rfl) Try.underlying3 }
open Go.RowKit Go.Lib in
theorem Try.stringslite_Index_shaped (s sub : ByteArray) (w : World) (h : w.ShapedOpen Try.prog) (hs : s.size < 4294967281) :
    Calls Try.prog 23 #[.string s, .string sub] w fun e w' => e = .returned (.int .i64 (Lib.index s.data.toList sub.data.toList)) ∧ w' = w := Any.stringslite_Index_shaped Try.laysM219 s sub w h hs
def Try.laysM143_ren : Go.Shelf.Ren := ⟨fun | 143 => 20 | 219 => 23 | 217 => 24 | 225 => 25 | 224 => 26 | 267 => 27 | 266 => 28 | 314 => 29 | n => n, fun | 9 => 9 | 3 => 3 | 4 => 4 | 5 => 5 | 46 => 51 | 146 => 53 | 51 => 52 | n => n, fun | 1 => 0 | n => n⟩
theorem Try.laysM143 : Go.Proofs.LaysM.n143 Try.prog Try.laysM143_ren := {
  mixed := by kernel_rfl
  f143 := Try.func20.trans (congrArg some (by kernel_rfl))
  f217 := Try.func24.trans (congrArg some (by kernel_rfl))
  f219 := Try.func23.trans (congrArg some (by kernel_rfl))
  f224 := Try.func26.trans (congrArg some (by kernel_rfl))
  f225 := Try.func25.trans (congrArg some (by kernel_rfl))
  f266 := Try.func28.trans (congrArg some (by kernel_rfl))
  f267 := Try.func27.trans (congrArg some (by kernel_rfl))
  f314 := Try.func29.trans (congrArg some (by kernel_rfl))
  t3 := Try.underlying3
  a3 := Try.isAgg3
  z3 := Try.sizeOf3
  v3 := Try.zeroValue3
  t4 := Try.underlying4
  a4 := Try.isAgg4
  z4 := Try.sizeOf4
  v4 := Try.zeroValue4
  t5 := Try.underlying5
  a5 := Try.isAgg5
  z5 := Try.sizeOf5
  v5 := Try.zeroValue5
  t9 := Try.underlying9
  a9 := Try.isAgg9
  z9 := Try.sizeOf9
  v9 := Try.zeroValue9
  t46 := Try.underlying51
  a46 := Try.isAgg51
  z46 := Try.sizeOf51
  v46 := Try.zeroValue51
  t51 := Try.underlying52
  a51 := Try.isAgg52
  z51 := Try.sizeOf52
  v51 := Try.zeroValue52
  t146 := Try.underlying53
  a146 := Try.isAgg53
  z146 := Try.sizeOf53
  v146 := Try.zeroValue53
  g1 := by kernel_rfl
  i3 := by kernel_rfl
  i4 := by kernel_rfl
  i5 := by kernel_rfl
  i9 := by kernel_rfl
  i46 := by kernel_rfl
  i51 := by kernel_rfl
  i146 := by kernel_rfl
  m1 := by kernel_rfl
  s1_3 := fun w h => Go.Proofs.cell_of_shapedOpen_int (zero := #[.int .i64 0]) (t := 3) h (of_decide_eq_true (by kernel_rfl)) (by kernel_rfl) rfl (by kernel_rfl) (by kernel_rfl) Try.underlying3 }
open Go.RowKit Go.Lib in
theorem Try.strings_Index_shaped (s sub : ByteArray) (w : World) (h : w.ShapedOpen Try.prog) (hs : s.size < 4294967281) :
    Calls Try.prog 20 #[.string s, .string sub] w fun e w' => e = .returned (.int .i64 (Lib.index s.data.toList sub.data.toList)) ∧ w' = w := Any.strings_Index_shaped Try.laysM143 s sub w h hs
def Try.laysM138_ren : Go.Shelf.Ren := ⟨fun | 138 => 15 | 195 => 18 | 218 => 19 | 143 => 20 | 219 => 23 | 217 => 24 | 225 => 25 | 224 => 26 | 267 => 27 | 266 => 28 | 314 => 29 | n => n, fun | 9 => 9 | 3 => 3 | 4 => 4 | 5 => 5 | 0 => 0 | 46 => 51 | 146 => 53 | 51 => 52 | n => n, fun | 1 => 0 | n => n⟩
theorem Try.laysM138 : Go.Proofs.LaysM.n138 Try.prog Try.laysM138_ren := {
  mixed := by kernel_rfl
  f138 := Try.func15.trans (congrArg some (by kernel_rfl))
  f143 := Try.func20.trans (congrArg some (by kernel_rfl))
  f195 := Try.func18.trans (congrArg some (by kernel_rfl))
  f217 := Try.func24.trans (congrArg some (by kernel_rfl))
  f218 := Try.func19.trans (congrArg some (by kernel_rfl))
  f219 := Try.func23.trans (congrArg some (by kernel_rfl))
  f224 := Try.func26.trans (congrArg some (by kernel_rfl))
  f225 := Try.func25.trans (congrArg some (by kernel_rfl))
  f266 := Try.func28.trans (congrArg some (by kernel_rfl))
  f267 := Try.func27.trans (congrArg some (by kernel_rfl))
  f314 := Try.func29.trans (congrArg some (by kernel_rfl))
  t0 := Try.underlying0
  a0 := Try.isAgg0
  z0 := Try.sizeOf0
  v0 := Try.zeroValue0
  t3 := Try.underlying3
  a3 := Try.isAgg3
  z3 := Try.sizeOf3
  v3 := Try.zeroValue3
  t4 := Try.underlying4
  a4 := Try.isAgg4
  z4 := Try.sizeOf4
  v4 := Try.zeroValue4
  t5 := Try.underlying5
  a5 := Try.isAgg5
  z5 := Try.sizeOf5
  v5 := Try.zeroValue5
  t9 := Try.underlying9
  a9 := Try.isAgg9
  z9 := Try.sizeOf9
  v9 := Try.zeroValue9
  t46 := Try.underlying51
  a46 := Try.isAgg51
  z46 := Try.sizeOf51
  v46 := Try.zeroValue51
  t51 := Try.underlying52
  a51 := Try.isAgg52
  z51 := Try.sizeOf52
  v51 := Try.zeroValue52
  t146 := Try.underlying53
  a146 := Try.isAgg53
  z146 := Try.sizeOf53
  v146 := Try.zeroValue53
  g1 := by kernel_rfl
  i0 := by kernel_rfl
  i3 := by kernel_rfl
  i4 := by kernel_rfl
  i5 := by kernel_rfl
  i9 := by kernel_rfl
  i46 := by kernel_rfl
  i51 := by kernel_rfl
  i146 := by kernel_rfl
  m1 := by kernel_rfl
  s1_3 := fun w h => Go.Proofs.cell_of_shapedOpen_int (zero := #[.int .i64 0]) (t := 3) h (of_decide_eq_true (by kernel_rfl)) (by kernel_rfl) rfl (by kernel_rfl) (by kernel_rfl) Try.underlying3 }
open Go.RowKit Go.Lib in
theorem Try.strings_Count_shaped (s sub : ByteArray) (w : World) (h : w.ShapedOpen Try.prog) (hs : s.size < 4294967281) (h2 : 2 ≤ sub.size) :
    Calls Try.prog 15 #[.string s, .string sub] w fun e w' => e = .returned (.int .i64 (Lib.countB s sub)) ∧ w' = w := Any.strings_Count_shaped Try.laysM138 s sub w h hs h2
def Try.lays207_ren : Go.Shelf.Ren := ⟨fun | 207 => 22 | n => n, fun | 9 => 9 | 4 => 4 | 3 => 3 | n => n, fun | n => n⟩
theorem Try.lays207 : Go.Proofs.Lays.n207 Try.prog Try.lays207_ren := {
  mixed := by kernel_rfl
  f207 := Try.func22.trans (congrArg some (by kernel_rfl))
  t3 := Try.underlying3
  a3 := Try.isAgg3
  z3 := Try.sizeOf3
  v3 := Try.zeroValue3
  t4 := Try.underlying4
  a4 := Try.isAgg4
  z4 := Try.sizeOf4
  v4 := Try.zeroValue4
  t9 := Try.underlying9
  a9 := Try.isAgg9
  z9 := Try.sizeOf9
  v9 := Try.zeroValue9 }
open Go.RowKit Go.Lib in
/-- internal/stringslite.HasSuffix (what strings.HasSuffix calls). (LAID: no walk: one application.) -/
theorem Try.stringslite_HasSuffix (s p : ByteArray) (w : World) (hs : s.size ≤ 9223372036854775807) :
    Calls Try.prog 22 #[.string s, .string p] w fun e w' => e = .returned (.bool (Lib.hasSuffix s.data.toList p.data.toList)) ∧ w' = w := Any.stringslite_HasSuffix Try.lays207 s p w hs
def Try.lays100_ren : Go.Shelf.Ren := ⟨fun | 100 => 17 | 207 => 22 | n => n, fun | 9 => 9 | 4 => 4 | 3 => 3 | n => n, fun | n => n⟩
theorem Try.lays100 : Go.Proofs.Lays.n100 Try.prog Try.lays100_ren := {
  mixed := by kernel_rfl
  f100 := Try.func17.trans (congrArg some (by kernel_rfl))
  f207 := Try.func22.trans (congrArg some (by kernel_rfl))
  t3 := Try.underlying3
  a3 := Try.isAgg3
  z3 := Try.sizeOf3
  v3 := Try.zeroValue3
  t4 := Try.underlying4
  a4 := Try.isAgg4
  z4 := Try.sizeOf4
  v4 := Try.zeroValue4
  t9 := Try.underlying9
  a9 := Try.isAgg9
  z9 := Try.sizeOf9
  v9 := Try.zeroValue9 }
open Go.RowKit Go.Lib in
/-- strings.HasSuffix: "HasSuffix reports whether the string s ends with suffix.": IT RETURNS 'Lib.hasSuffix s suffix'; the world is as it was. ('hs': no Go string is longer: a caller has it of every string that it was handed.) (LAID: no walk: one application.) -/
theorem Try.strings_HasSuffix (s p : ByteArray) (w : World) (hs : s.size ≤ 9223372036854775807) :
    Calls Try.prog 17 #[.string s, .string p] w fun e w' => e = .returned (.bool (Lib.hasSuffix s.data.toList p.data.toList)) ∧ w' = w := Any.strings_HasSuffix Try.lays100 s p w hs
end Go.Proofs
