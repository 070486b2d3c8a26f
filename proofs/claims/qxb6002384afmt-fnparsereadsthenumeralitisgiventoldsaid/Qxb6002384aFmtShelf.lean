/-
  The kit's contracts of strings.* and math/bits.* at this program, laid by the kit's own tools (lay-shelf, lay-plain); remarks struck.
-/
import Derived.Shelf.Strings.Search1
import Derived.Shelf.Strings.Search2
import Derived.Shelf.Strings.Cut
import Derived.Shelf.LaysM
import Derived.Shelf.Strings.Shaped
import Derived.Shelf.Strings.Prefix
import Derived.Shelf.Bits.Mul64
import Derived.Test.Qxb6002384aFmtProg
namespace Go.Proofs
open Go.Shelf
def Tryf.lays217_ren : Go.Shelf.Ren := ⟨fun | 217 => 38 | 266 => 45 | n => n, fun | 9 => 9 | 5 => 5 | 3 => 3 | n => n, fun | n => n⟩
theorem Tryf.lays217 : Go.Proofs.Lays.n217 Tryf.prog Tryf.lays217_ren := {
  mixed := by kernel_rfl
  f217 := Tryf.func38.trans (congrArg some (by kernel_rfl))
  f266 := Tryf.func45.trans (congrArg some (by kernel_rfl))
  t3 := Tryf.underlying3
  a3 := Tryf.isAgg3
  z3 := Tryf.sizeOf3
  v3 := Tryf.zeroValue3
  t5 := Tryf.underlying5
  a5 := Tryf.isAgg5
  z5 := Tryf.sizeOf5
  v5 := Tryf.zeroValue5
  t9 := Tryf.underlying9
  a9 := Tryf.isAgg9
  z9 := Tryf.sizeOf9
  v9 := Tryf.zeroValue9 }
open Go.RowKit Go.Lib in
theorem Tryf.stringslite_IndexByte (s : ByteArray) (c : Int) (w : World) :
    Calls Tryf.prog 38 #[.string s, .int .u8 c] w fun e w' => e = .returned (.int .i64 (Lib.indexByte s.data.toList c.toNat.toUInt8)) ∧ w' = w := Any.stringslite_IndexByte Tryf.lays217 s c w
def Tryf.lays224_ren : Go.Shelf.Ren := ⟨fun | 224 => 40 | n => n, fun | 3 => 3 | n => n, fun | n => n⟩
theorem Tryf.lays224 : Go.Proofs.Lays.n224 Tryf.prog Tryf.lays224_ren := {
  mixed := by kernel_rfl
  f224 := Tryf.func40.trans (congrArg some (by kernel_rfl))
  t3 := Tryf.underlying3
  a3 := Tryf.isAgg3
  z3 := Tryf.sizeOf3
  v3 := Tryf.zeroValue3 }
open Go.RowKit Go.Lib in
theorem Tryf.bytealg_Cutover (n : Int) (h0 : 0 ≤ n) (h1 : n < 4611686018427387904) (w : World) :
    Calls Tryf.prog 40 #[.int .i64 n] w fun e w' => e = .returned (.int .i64 ((n + 16) / 8)) ∧ w' = w := Any.bytealg_Cutover Tryf.lays224 n h0 h1 w
def Tryf.lays314_ren : Go.Shelf.Ren := ⟨fun | 314 => 46 | n => n, fun | 9 => 9 | 51 => 30 | 3 => 3 | 4 => 4 | 5 => 5 | 46 => 74 | n => n, fun | n => n⟩
theorem Tryf.lays314 : Go.Proofs.Lays.n314 Tryf.prog Tryf.lays314_ren := {
  mixed := by kernel_rfl
  f314 := Tryf.func46.trans (congrArg some (by kernel_rfl))
  t3 := Tryf.underlying3
  a3 := Tryf.isAgg3
  z3 := Tryf.sizeOf3
  v3 := Tryf.zeroValue3
  t4 := Tryf.underlying4
  a4 := Tryf.isAgg4
  z4 := Tryf.sizeOf4
  v4 := Tryf.zeroValue4
  t5 := Tryf.underlying5
  a5 := Tryf.isAgg5
  z5 := Tryf.sizeOf5
  v5 := Tryf.zeroValue5
  t9 := Tryf.underlying9
  a9 := Tryf.isAgg9
  z9 := Tryf.sizeOf9
  v9 := Tryf.zeroValue9
  t46 := Tryf.underlying74
  a46 := Tryf.isAgg74
  z46 := Tryf.sizeOf74
  v46 := Tryf.zeroValue74
  t51 := Tryf.underlying30
  a51 := Tryf.isAgg30
  z51 := Tryf.sizeOf30
  v51 := Tryf.zeroValue30 }
open Go.RowKit Go.Lib in
theorem Tryf.bytealg_hashStr (sep : ByteArray) (hs : sep.size < 4294967281) (w : World) :
    Calls Tryf.prog 46 #[.string sep] w fun e w' => e = .returned (.tuple #[.int .u32 (RK.H sep.data.toList % 4294967296), .int .u32 (16777619 ^ sep.size % 4294967296)]) ∧ w' = w := Any.bytealg_hashStr Tryf.lays314 sep hs w
def Tryf.lays267_ren : Go.Shelf.Ren := ⟨fun | 267 => 41 | 314 => 46 | n => n, fun | 9 => 9 | 3 => 3 | 146 => 83 | 51 => 30 | 4 => 4 | 5 => 5 | 46 => 74 | n => n, fun | n => n⟩
theorem Tryf.lays267 : Go.Proofs.Lays.n267 Tryf.prog Tryf.lays267_ren := {
  mixed := by kernel_rfl
  f267 := Tryf.func41.trans (congrArg some (by kernel_rfl))
  f314 := Tryf.func46.trans (congrArg some (by kernel_rfl))
  t3 := Tryf.underlying3
  a3 := Tryf.isAgg3
  z3 := Tryf.sizeOf3
  v3 := Tryf.zeroValue3
  t4 := Tryf.underlying4
  a4 := Tryf.isAgg4
  z4 := Tryf.sizeOf4
  v4 := Tryf.zeroValue4
  t5 := Tryf.underlying5
  a5 := Tryf.isAgg5
  z5 := Tryf.sizeOf5
  v5 := Tryf.zeroValue5
  t9 := Tryf.underlying9
  a9 := Tryf.isAgg9
  z9 := Tryf.sizeOf9
  v9 := Tryf.zeroValue9
  t46 := Tryf.underlying74
  a46 := Tryf.isAgg74
  z46 := Tryf.sizeOf74
  v46 := Tryf.zeroValue74
  t51 := Tryf.underlying30
  a51 := Tryf.isAgg30
  z51 := Tryf.sizeOf30
  v51 := Tryf.zeroValue30
  t146 := Tryf.underlying83
  a146 := Tryf.isAgg83
  z146 := Tryf.sizeOf83
  v146 := Tryf.zeroValue83 }
open Go.RowKit Go.Lib in
theorem Tryf.bytealg_IndexRabinKarp (s sep : ByteArray) (h1 : 1 ≤ sep.size) (h2 : sep.size ≤ s.size) (hs : s.size < 4294967281) (w : World) :
    Calls Tryf.prog 41 #[.string s, .string sep] w fun e w' => e = .returned (.int .i64 (Lib.index s.data.toList sep.data.toList)) ∧ w' = w := Any.bytealg_IndexRabinKarp Tryf.lays267 s sep h1 h2 hs w
def Tryf.lays219_ren : Go.Shelf.Ren := ⟨fun | 219 => 34 | 217 => 38 | 225 => 39 | 224 => 40 | 267 => 41 | 266 => 45 | 314 => 46 | n => n, fun | 9 => 9 | 3 => 3 | 4 => 4 | 5 => 5 | 46 => 74 | 146 => 83 | 51 => 30 | n => n, fun | 1 => 2 | n => n⟩
theorem Tryf.lays219 : Go.Proofs.Lays.n219 Tryf.prog Tryf.lays219_ren := {
  mixed := by kernel_rfl
  f217 := Tryf.func38.trans (congrArg some (by kernel_rfl))
  f219 := Tryf.func34.trans (congrArg some (by kernel_rfl))
  f224 := Tryf.func40.trans (congrArg some (by kernel_rfl))
  f225 := Tryf.func39.trans (congrArg some (by kernel_rfl))
  f266 := Tryf.func45.trans (congrArg some (by kernel_rfl))
  f267 := Tryf.func41.trans (congrArg some (by kernel_rfl))
  f314 := Tryf.func46.trans (congrArg some (by kernel_rfl))
  t3 := Tryf.underlying3
  a3 := Tryf.isAgg3
  z3 := Tryf.sizeOf3
  v3 := Tryf.zeroValue3
  t4 := Tryf.underlying4
  a4 := Tryf.isAgg4
  z4 := Tryf.sizeOf4
  v4 := Tryf.zeroValue4
  t5 := Tryf.underlying5
  a5 := Tryf.isAgg5
  z5 := Tryf.sizeOf5
  v5 := Tryf.zeroValue5
  t9 := Tryf.underlying9
  a9 := Tryf.isAgg9
  z9 := Tryf.sizeOf9
  v9 := Tryf.zeroValue9
  t46 := Tryf.underlying74
  a46 := Tryf.isAgg74
  z46 := Tryf.sizeOf74
  v46 := Tryf.zeroValue74
  t51 := Tryf.underlying30
  a51 := Tryf.isAgg30
  z51 := Tryf.sizeOf30
  v51 := Tryf.zeroValue30
  t146 := Tryf.underlying83
  a146 := Tryf.isAgg83
  z146 := Tryf.sizeOf83
  v146 := Tryf.zeroValue83
  g1 := by kernel_rfl }
open Go.RowKit Go.Lib in
theorem Tryf.stringslite_Index_one (s : ByteArray) (c : UInt8) (w : World) :
    Calls Tryf.prog 34 #[.string s, .string ⟨#[c]⟩] w fun e w' => e = .returned (.int .i64 (Lib.indexByte s.data.toList c)) ∧ w' = w := Any.stringslite_Index_one Tryf.lays219 s c w
open Go.RowKit Go.Lib in
theorem Tryf.stringslite_Index (s sub : ByteArray) (m : Int) (w : World) (hs : s.size < 4294967281) (hm : w.cell? ⟨2, 0, none⟩ = some (.int .i64 m)) :
    Calls Tryf.prog 34 #[.string s, .string sub] w fun e w' => e = .returned (.int .i64 (Lib.index s.data.toList sub.data.toList)) ∧ w' = w := Any.stringslite_Index Tryf.lays219 s sub m w hs hm
def Tryf.lays220_ren : Go.Shelf.Ren := ⟨fun | 220 => 20 | 219 => 34 | 217 => 38 | 225 => 39 | 224 => 40 | 267 => 41 | 266 => 45 | 314 => 46 | n => n, fun | 9 => 9 | 4 => 4 | 3 => 3 | 5 => 5 | 46 => 74 | 146 => 83 | 51 => 30 | n => n, fun | 1 => 2 | n => n⟩
theorem Tryf.lays220 : Go.Proofs.Lays.n220 Tryf.prog Tryf.lays220_ren := {
  mixed := by kernel_rfl
  f217 := Tryf.func38.trans (congrArg some (by kernel_rfl))
  f219 := Tryf.func34.trans (congrArg some (by kernel_rfl))
  f220 := Tryf.func20.trans (congrArg some (by kernel_rfl))
  f224 := Tryf.func40.trans (congrArg some (by kernel_rfl))
  f225 := Tryf.func39.trans (congrArg some (by kernel_rfl))
  f266 := Tryf.func45.trans (congrArg some (by kernel_rfl))
  f267 := Tryf.func41.trans (congrArg some (by kernel_rfl))
  f314 := Tryf.func46.trans (congrArg some (by kernel_rfl))
  t3 := Tryf.underlying3
  a3 := Tryf.isAgg3
  z3 := Tryf.sizeOf3
  v3 := Tryf.zeroValue3
  t4 := Tryf.underlying4
  a4 := Tryf.isAgg4
  z4 := Tryf.sizeOf4
  v4 := Tryf.zeroValue4
  t5 := Tryf.underlying5
  a5 := Tryf.isAgg5
  z5 := Tryf.sizeOf5
  v5 := Tryf.zeroValue5
  t9 := Tryf.underlying9
  a9 := Tryf.isAgg9
  z9 := Tryf.sizeOf9
  v9 := Tryf.zeroValue9
  t46 := Tryf.underlying74
  a46 := Tryf.isAgg74
  z46 := Tryf.sizeOf74
  v46 := Tryf.zeroValue74
  t51 := Tryf.underlying30
  a51 := Tryf.isAgg30
  z51 := Tryf.sizeOf30
  v51 := Tryf.zeroValue30
  t146 := Tryf.underlying83
  a146 := Tryf.isAgg83
  z146 := Tryf.sizeOf83
  v146 := Tryf.zeroValue83
  g1 := by kernel_rfl }
open Go.RowKit Go.Lib in
theorem Tryf.stringslite_Cut (s sep : ByteArray) (m : Int) (w : World) (hs : s.size < 4294967281) (hm : w.cell? ⟨2, 0, none⟩ = some (.int .i64 m)) :
    Calls Tryf.prog 20 #[.string s, .string sep] w fun e w' => e = .returned (.tuple #[.string ⟨(Lib.cut s.data.toList sep.data.toList).1.toArray⟩, .string ⟨(Lib.cut s.data.toList sep.data.toList).2.1.toArray⟩, .bool (Lib.cut s.data.toList sep.data.toList).2.2]) ∧ ∃ n, w' = w.drewN n := Any.stringslite_Cut Tryf.lays220 s sep m w hs hm
def Tryf.lays145_ren : Go.Shelf.Ren := ⟨fun | 145 => 12 | 220 => 20 | 219 => 34 | 217 => 38 | 225 => 39 | 224 => 40 | 267 => 41 | 266 => 45 | 314 => 46 | n => n, fun | 9 => 9 | 4 => 4 | 59 => 39 | 3 => 3 | 5 => 5 | 46 => 74 | 146 => 83 | 51 => 30 | n => n, fun | 1 => 2 | n => n⟩
theorem Tryf.lays145 : Go.Proofs.Lays.n145 Tryf.prog Tryf.lays145_ren := {
  mixed := by kernel_rfl
  f145 := Tryf.func12.trans (congrArg some (by kernel_rfl))
  f217 := Tryf.func38.trans (congrArg some (by kernel_rfl))
  f219 := Tryf.func34.trans (congrArg some (by kernel_rfl))
  f220 := Tryf.func20.trans (congrArg some (by kernel_rfl))
  f224 := Tryf.func40.trans (congrArg some (by kernel_rfl))
  f225 := Tryf.func39.trans (congrArg some (by kernel_rfl))
  f266 := Tryf.func45.trans (congrArg some (by kernel_rfl))
  f267 := Tryf.func41.trans (congrArg some (by kernel_rfl))
  f314 := Tryf.func46.trans (congrArg some (by kernel_rfl))
  t3 := Tryf.underlying3
  a3 := Tryf.isAgg3
  z3 := Tryf.sizeOf3
  v3 := Tryf.zeroValue3
  t4 := Tryf.underlying4
  a4 := Tryf.isAgg4
  z4 := Tryf.sizeOf4
  v4 := Tryf.zeroValue4
  t5 := Tryf.underlying5
  a5 := Tryf.isAgg5
  z5 := Tryf.sizeOf5
  v5 := Tryf.zeroValue5
  t9 := Tryf.underlying9
  a9 := Tryf.isAgg9
  z9 := Tryf.sizeOf9
  v9 := Tryf.zeroValue9
  t46 := Tryf.underlying74
  a46 := Tryf.isAgg74
  z46 := Tryf.sizeOf74
  v46 := Tryf.zeroValue74
  t51 := Tryf.underlying30
  a51 := Tryf.isAgg30
  z51 := Tryf.sizeOf30
  v51 := Tryf.zeroValue30
  t59 := Tryf.underlying39
  a59 := Tryf.isAgg39
  z59 := Tryf.sizeOf39
  v59 := Tryf.zeroValue39
  t146 := Tryf.underlying83
  a146 := Tryf.isAgg83
  z146 := Tryf.sizeOf83
  v146 := Tryf.zeroValue83
  g1 := by kernel_rfl }
open Go.RowKit Go.Lib in
theorem Tryf.strings_Cut (s sep : ByteArray) (m : Int) (w : World) (hs : s.size < 4294967281) (hm : w.cell? ⟨2, 0, none⟩ = some (.int .i64 m)) :
    Calls Tryf.prog 12 #[.string s, .string sep] w fun e w' => e = .returned (.tuple #[.string ⟨(Lib.cut s.data.toList sep.data.toList).1.toArray⟩, .string ⟨(Lib.cut s.data.toList sep.data.toList).2.1.toArray⟩, .bool (Lib.cut s.data.toList sep.data.toList).2.2]) ∧ ∃ n, w' = w.drewN n := Any.strings_Cut Tryf.lays145 s sep m w hs hm
def Tryf.laysM219_ren : Go.Shelf.Ren := ⟨fun | 219 => 34 | 217 => 38 | 225 => 39 | 224 => 40 | 267 => 41 | 266 => 45 | 314 => 46 | n => n, fun | 9 => 9 | 3 => 3 | 4 => 4 | 5 => 5 | 46 => 74 | 146 => 83 | 51 => 30 | n => n, fun | 1 => 2 | n => n⟩
theorem Tryf.laysM219 : Go.Proofs.LaysM.n219 Tryf.prog Tryf.laysM219_ren := {
  mixed := by kernel_rfl
  f217 := Tryf.func38.trans (congrArg some (by kernel_rfl))
  f219 := Tryf.func34.trans (congrArg some (by kernel_rfl))
  f224 := Tryf.func40.trans (congrArg some (by kernel_rfl))
  f225 := Tryf.func39.trans (congrArg some (by kernel_rfl))
  f266 := Tryf.func45.trans (congrArg some (by kernel_rfl))
  f267 := Tryf.func41.trans (congrArg some (by kernel_rfl))
  f314 := Tryf.func46.trans (congrArg some (by kernel_rfl))
  t3 := Tryf.underlying3
  a3 := Tryf.isAgg3
  z3 := Tryf.sizeOf3
  v3 := Tryf.zeroValue3
  t4 := Tryf.underlying4
  a4 := Tryf.isAgg4
  z4 := Tryf.sizeOf4
  v4 := Tryf.zeroValue4
  t5 := Tryf.underlying5
  a5 := Tryf.isAgg5
  z5 := Tryf.sizeOf5
  v5 := Tryf.zeroValue5
  t9 := Tryf.underlying9
  a9 := Tryf.isAgg9
  z9 := Tryf.sizeOf9
  v9 := Tryf.zeroValue9
  t46 := Tryf.underlying74
  a46 := Tryf.isAgg74
  z46 := Tryf.sizeOf74
  v46 := Tryf.zeroValue74
  t51 := Tryf.underlying30
  a51 := Tryf.isAgg30
  z51 := Tryf.sizeOf30
  v51 := Tryf.zeroValue30
  t146 := Tryf.underlying83
  a146 := Tryf.isAgg83
  z146 := Tryf.sizeOf83
  v146 := Tryf.zeroValue83
  g1 := by kernel_rfl
  i3 := by kernel_rfl
  i4 := by kernel_rfl
  i5 := by kernel_rfl
  i9 := by kernel_rfl
  i46 := by kernel_rfl
  i51 := by kernel_rfl
  i146 := by kernel_rfl
  m1 := by kernel_rfl
  s1_3 := fun w h => Go.Proofs.cell_of_shapedOpen_int (zero := #[.int .i64 0]) (t := 3) h (of_decide_eq_true (by kernel_rfl)) (by kernel_rfl) rfl (by kernel_rfl) (by kernel_rfl) Tryf.underlying3 }
open Go.RowKit Go.Lib in
theorem Tryf.stringslite_Index_shaped (s sub : ByteArray) (w : World) (h : w.ShapedOpen Tryf.prog) (hs : s.size < 4294967281) :
    Calls Tryf.prog 34 #[.string s, .string sub] w fun e w' => e = .returned (.int .i64 (Lib.index s.data.toList sub.data.toList)) ∧ w' = w := Any.stringslite_Index_shaped Tryf.laysM219 s sub w h hs
def Tryf.laysM220_ren : Go.Shelf.Ren := ⟨fun | 220 => 20 | 219 => 34 | 217 => 38 | 225 => 39 | 224 => 40 | 267 => 41 | 266 => 45 | 314 => 46 | n => n, fun | 9 => 9 | 4 => 4 | 3 => 3 | 5 => 5 | 46 => 74 | 146 => 83 | 51 => 30 | n => n, fun | 1 => 2 | n => n⟩
theorem Tryf.laysM220 : Go.Proofs.LaysM.n220 Tryf.prog Tryf.laysM220_ren := {
  mixed := by kernel_rfl
  f217 := Tryf.func38.trans (congrArg some (by kernel_rfl))
  f219 := Tryf.func34.trans (congrArg some (by kernel_rfl))
  f220 := Tryf.func20.trans (congrArg some (by kernel_rfl))
  f224 := Tryf.func40.trans (congrArg some (by kernel_rfl))
  f225 := Tryf.func39.trans (congrArg some (by kernel_rfl))
  f266 := Tryf.func45.trans (congrArg some (by kernel_rfl))
  f267 := Tryf.func41.trans (congrArg some (by kernel_rfl))
  f314 := Tryf.func46.trans (congrArg some (by kernel_rfl))
  t3 := Tryf.underlying3
  a3 := Tryf.isAgg3
  z3 := Tryf.sizeOf3
  v3 := Tryf.zeroValue3
  t4 := Tryf.underlying4
  a4 := Tryf.isAgg4
  z4 := Tryf.sizeOf4
  v4 := Tryf.zeroValue4
  t5 := Tryf.underlying5
  a5 := Tryf.isAgg5
  z5 := Tryf.sizeOf5
  v5 := Tryf.zeroValue5
  t9 := Tryf.underlying9
  a9 := Tryf.isAgg9
  z9 := Tryf.sizeOf9
  v9 := Tryf.zeroValue9
  t46 := Tryf.underlying74
  a46 := Tryf.isAgg74
  z46 := Tryf.sizeOf74
  v46 := Tryf.zeroValue74
  t51 := Tryf.underlying30
  a51 := Tryf.isAgg30
  z51 := Tryf.sizeOf30
  v51 := Tryf.zeroValue30
  t146 := Tryf.underlying83
  a146 := Tryf.isAgg83
  z146 := Tryf.sizeOf83
  v146 := Tryf.zeroValue83
  g1 := by kernel_rfl
  i3 := by kernel_rfl
  i4 := by kernel_rfl
  i5 := by kernel_rfl
  i9 := by kernel_rfl
  i46 := by kernel_rfl
  i51 := by kernel_rfl
  i146 := by kernel_rfl
  m1 := by kernel_rfl
  s1_3 := fun w h => Go.Proofs.cell_of_shapedOpen_int (zero := #[.int .i64 0]) (t := 3) h (of_decide_eq_true (by kernel_rfl)) (by kernel_rfl) rfl (by kernel_rfl) (by kernel_rfl) Tryf.underlying3 }
open Go.RowKit Go.Lib in
theorem Tryf.stringslite_Cut_shaped (s sep : ByteArray) (w : World) (h : w.ShapedOpen Tryf.prog) (hs : s.size < 4294967281) :
    Calls Tryf.prog 20 #[.string s, .string sep] w fun e w' => e = .returned (.tuple #[.string ⟨(Lib.cut s.data.toList sep.data.toList).1.toArray⟩, .string ⟨(Lib.cut s.data.toList sep.data.toList).2.1.toArray⟩, .bool (Lib.cut s.data.toList sep.data.toList).2.2]) ∧ ∃ n, w' = w.drewN n := Any.stringslite_Cut_shaped Tryf.laysM220 s sep w h hs
def Tryf.laysM145_ren : Go.Shelf.Ren := ⟨fun | 145 => 12 | 220 => 20 | 219 => 34 | 217 => 38 | 225 => 39 | 224 => 40 | 267 => 41 | 266 => 45 | 314 => 46 | n => n, fun | 9 => 9 | 4 => 4 | 59 => 39 | 3 => 3 | 5 => 5 | 46 => 74 | 146 => 83 | 51 => 30 | n => n, fun | 1 => 2 | n => n⟩
theorem Tryf.laysM145 : Go.Proofs.LaysM.n145 Tryf.prog Tryf.laysM145_ren := {
  mixed := by kernel_rfl
  f145 := Tryf.func12.trans (congrArg some (by kernel_rfl))
  f217 := Tryf.func38.trans (congrArg some (by kernel_rfl))
  f219 := Tryf.func34.trans (congrArg some (by kernel_rfl))
  f220 := Tryf.func20.trans (congrArg some (by kernel_rfl))
  f224 := Tryf.func40.trans (congrArg some (by kernel_rfl))
  f225 := Tryf.func39.trans (congrArg some (by kernel_rfl))
  f266 := Tryf.func45.trans (congrArg some (by kernel_rfl))
  f267 := Tryf.func41.trans (congrArg some (by kernel_rfl))
  f314 := Tryf.func46.trans (congrArg some (by kernel_rfl))
  t3 := Tryf.underlying3
  a3 := Tryf.isAgg3
  z3 := Tryf.sizeOf3
  v3 := Tryf.zeroValue3
  t4 := Tryf.underlying4
  a4 := Tryf.isAgg4
  z4 := Tryf.sizeOf4
  v4 := Tryf.zeroValue4
  t5 := Tryf.underlying5
  a5 := Tryf.isAgg5
  z5 := Tryf.sizeOf5
  v5 := Tryf.zeroValue5
  t9 := Tryf.underlying9
  a9 := Tryf.isAgg9
  z9 := Tryf.sizeOf9
  v9 := Tryf.zeroValue9
  t46 := Tryf.underlying74
  a46 := Tryf.isAgg74
  z46 := Tryf.sizeOf74
  v46 := Tryf.zeroValue74
  t51 := Tryf.underlying30
  a51 := Tryf.isAgg30
  z51 := Tryf.sizeOf30
  v51 := Tryf.zeroValue30
  t59 := Tryf.underlying39
  a59 := Tryf.isAgg39
  z59 := Tryf.sizeOf39
  v59 := Tryf.zeroValue39
  t146 := Tryf.underlying83
  a146 := Tryf.isAgg83
  z146 := Tryf.sizeOf83
  v146 := Tryf.zeroValue83
  g1 := by kernel_rfl
  i3 := by kernel_rfl
  i4 := by kernel_rfl
  i5 := by kernel_rfl
  i9 := by kernel_rfl
  i46 := by kernel_rfl
  i51 := by kernel_rfl
  i59 := by kernel_rfl
  i146 := by kernel_rfl
  m1 := by kernel_rfl
  s1_3 := fun w h => Go.Proofs.cell_of_shapedOpen_int (zero := #[.int .i64 0]) (t := 3) h (of_decide_eq_true (by kernel_rfl)) (by kernel_rfl) rfl (by kernel_rfl) (by kernel_rfl) Tryf.underlying3 }
open Go.RowKit Go.Lib in
theorem Tryf.strings_Cut_shaped (s sep : ByteArray) (w : World) (h : w.ShapedOpen Tryf.prog) (hs : s.size < 4294967281) :
    Calls Tryf.prog 12 #[.string s, .string sep] w fun e w' => e = .returned (.tuple #[.string ⟨(Lib.cut s.data.toList sep.data.toList).1.toArray⟩, .string ⟨(Lib.cut s.data.toList sep.data.toList).2.1.toArray⟩, .bool (Lib.cut s.data.toList sep.data.toList).2.2]) ∧ ∃ n, w' = w.drewN n := Any.strings_Cut_shaped Tryf.laysM145 s sep w h hs
def Tryf.lays206_ren : Go.Shelf.Ren := ⟨fun | 206 => 35 | n => n, fun | 9 => 9 | 4 => 4 | 3 => 3 | n => n, fun | n => n⟩
theorem Tryf.lays206 : Go.Proofs.Lays.n206 Tryf.prog Tryf.lays206_ren := {
  mixed := by kernel_rfl
  f206 := Tryf.func35.trans (congrArg some (by kernel_rfl))
  t3 := Tryf.underlying3
  a3 := Tryf.isAgg3
  z3 := Tryf.sizeOf3
  v3 := Tryf.zeroValue3
  t4 := Tryf.underlying4
  a4 := Tryf.isAgg4
  z4 := Tryf.sizeOf4
  v4 := Tryf.zeroValue4
  t9 := Tryf.underlying9
  a9 := Tryf.isAgg9
  z9 := Tryf.sizeOf9
  v9 := Tryf.zeroValue9 }
open Go.RowKit Go.Lib in
theorem Tryf.stringslite_HasPrefix (s p : ByteArray) (w : World) :
    Calls Tryf.prog 35 #[.string s, .string p] w fun e w' => e = .returned (.bool (Lib.hasPrefix s.data.toList p.data.toList)) ∧ w' = w := Any.stringslite_HasPrefix Tryf.lays206 s p w
def Tryf.lays208_ren : Go.Shelf.Ren := ⟨fun | 208 => 21 | 206 => 35 | n => n, fun | 9 => 9 | 4 => 4 | 3 => 3 | n => n, fun | n => n⟩
theorem Tryf.lays208 : Go.Proofs.Lays.n208 Tryf.prog Tryf.lays208_ren := {
  mixed := by kernel_rfl
  f206 := Tryf.func35.trans (congrArg some (by kernel_rfl))
  f208 := Tryf.func21.trans (congrArg some (by kernel_rfl))
  t3 := Tryf.underlying3
  a3 := Tryf.isAgg3
  z3 := Tryf.sizeOf3
  v3 := Tryf.zeroValue3
  t4 := Tryf.underlying4
  a4 := Tryf.isAgg4
  z4 := Tryf.sizeOf4
  v4 := Tryf.zeroValue4
  t9 := Tryf.underlying9
  a9 := Tryf.isAgg9
  z9 := Tryf.sizeOf9
  v9 := Tryf.zeroValue9 }
open Go.RowKit Go.Lib in
theorem Tryf.stringslite_TrimPrefix (s p : ByteArray) (w : World) :
    Calls Tryf.prog 21 #[.string s, .string p] w fun e w' => e = .returned (.string ⟨(Lib.trimPrefix s.data.toList p.data.toList).toArray⟩) ∧ w' = w := Any.stringslite_TrimPrefix Tryf.lays208 s p w
def Tryf.lays101_ren : Go.Shelf.Ren := ⟨fun | 101 => 13 | 208 => 21 | 206 => 35 | n => n, fun | 9 => 9 | 4 => 4 | 3 => 3 | n => n, fun | n => n⟩
theorem Tryf.lays101 : Go.Proofs.Lays.n101 Tryf.prog Tryf.lays101_ren := {
  mixed := by kernel_rfl
  f101 := Tryf.func13.trans (congrArg some (by kernel_rfl))
  f206 := Tryf.func35.trans (congrArg some (by kernel_rfl))
  f208 := Tryf.func21.trans (congrArg some (by kernel_rfl))
  t3 := Tryf.underlying3
  a3 := Tryf.isAgg3
  z3 := Tryf.sizeOf3
  v3 := Tryf.zeroValue3
  t4 := Tryf.underlying4
  a4 := Tryf.isAgg4
  z4 := Tryf.sizeOf4
  v4 := Tryf.zeroValue4
  t9 := Tryf.underlying9
  a9 := Tryf.isAgg9
  z9 := Tryf.sizeOf9
  v9 := Tryf.zeroValue9 }
open Go.RowKit Go.Lib in
theorem Tryf.strings_TrimPrefix (s p : ByteArray) (w : World) :
    Calls Tryf.prog 13 #[.string s, .string p] w fun e w' => e = .returned (.string ⟨(Lib.trimPrefix s.data.toList p.data.toList).toArray⟩) ∧ w' = w := Any.strings_TrimPrefix Tryf.lays101 s p w
def Tryf.lays264_ren : Go.Shelf.Ren := ⟨fun | 264 => 63 | n => n, fun | 53 => 34 | 46 => 74 | n => n, fun | n => n⟩
theorem Tryf.lays264 : Go.Proofs.Lays.n264 Tryf.prog Tryf.lays264_ren := {
  mixed := by kernel_rfl
  f264 := Tryf.func63.trans (congrArg some (by kernel_rfl))
  t46 := Tryf.underlying74
  a46 := Tryf.isAgg74
  z46 := Tryf.sizeOf74
  v46 := Tryf.zeroValue74
  t53 := Tryf.underlying34
  a53 := Tryf.isAgg34
  z53 := Tryf.sizeOf34
  v53 := Tryf.zeroValue34 }
open Go.RowKit Go.Lib in
theorem Tryf.bits_Mul64 (x y : Nat) (hx : x < 18446744073709551616) (hy : y < 18446744073709551616) (w : World) :
    Calls Tryf.prog 63 #[.int .u64 x, .int .u64 y] w fun e w' => e = .returned (.tuple #[.int .u64 ((x * y / 18446744073709551616 : Nat) : Int), .int .u64 ((x * y % 18446744073709551616 : Nat) : Int)]) ∧ w' = w := Any.bits_Mul64 Tryf.lays264 x y hx hy w
def Tryf.lays212_ren : Go.Shelf.Ren := ⟨fun | 212 => 60 | 263 => 62 | 264 => 63 | n => n, fun | 46 => 74 | 51 => 30 | 146 => 83 | 53 => 34 | 148 => 105 | n => n, fun | n => n⟩
theorem Tryf.lays212 : Go.Proofs.Lays.n212 Tryf.prog Tryf.lays212_ren := {
  mixed := by kernel_rfl
  f212 := Tryf.func60.trans (congrArg some (by kernel_rfl))
  f263 := Tryf.func62.trans (congrArg some (by kernel_rfl))
  f264 := Tryf.func63.trans (congrArg some (by kernel_rfl))
  t46 := Tryf.underlying74
  a46 := Tryf.isAgg74
  z46 := Tryf.sizeOf74
  v46 := Tryf.zeroValue74
  t51 := Tryf.underlying30
  a51 := Tryf.isAgg30
  z51 := Tryf.sizeOf30
  v51 := Tryf.zeroValue30
  t53 := Tryf.underlying34
  a53 := Tryf.isAgg34
  z53 := Tryf.sizeOf34
  v53 := Tryf.zeroValue34
  t146 := Tryf.underlying83
  a146 := Tryf.isAgg83
  z146 := Tryf.sizeOf83
  v146 := Tryf.zeroValue83
  t148 := Tryf.underlying105
  a148 := Tryf.isAgg105
  z148 := Tryf.sizeOf105
  v148 := Tryf.zeroValue105 }
open Go.RowKit Go.Lib in
theorem Tryf.bits_Mul (x y : Nat) (hx : x < 18446744073709551616) (hy : y < 18446744073709551616) (w : World) :
    Calls Tryf.prog 60 #[.int .u64 x, .int .u64 y] w fun e w' => e = .returned (.tuple #[.int .u64 ((x * y / 18446744073709551616 : Nat) : Int), .int .u64 ((x * y % 18446744073709551616 : Nat) : Int)]) ∧ w' = w := Any.bits_Mul Tryf.lays212 x y hx hy w
end Go.Proofs
