import Derived.Shelf.Strings.Search1
import Derived.Shelf.Strings.Search2
import Derived.Shelf.Strings.Cut
import Derived.Shelf.LaysM
import Derived.Shelf.Strings.Shaped
import Derived.Shelf.Strings.LastIndex
import Derived.Shelf.Strings.Prefix
import Derived.Test.Qxb6600888aProg
namespace Go.Proofs
open Go.Shelf
def Try.lays217_ren : Go.Shelf.Ren := ⟨fun | 217 => 33 | 266 => 37 | n => n, fun | 9 => 9 | 5 => 5 | 3 => 3 | n => n, fun | n => n⟩
theorem Try.lays217 : Go.Proofs.Lays.n217 Try.prog Try.lays217_ren := {
  mixed := by kernel_rfl
  f217 := Try.func33.trans (congrArg some (by kernel_rfl))
  f266 := Try.func37.trans (congrArg some (by kernel_rfl))
  t3 := Try.underlying3
  a3 := Try.isAgg3
  z3 := Try.sizeOf3
  v3 := Try.zeroValue3
  t5 := Try.underlying5
  a5 := Try.isAgg5
  z5 := Try.sizeOf5
  v5 := Try.zeroValue5
  t9 := Try.underlying9
  a9 := Try.isAgg9
  z9 := Try.sizeOf9
  v9 := Try.zeroValue9 }
open Go.RowKit Go.Lib in
theorem Try.stringslite_IndexByte (s : ByteArray) (c : Int) (w : World) :
    Calls Try.prog 33 #[.string s, .int .u8 c] w fun e w' => e = .returned (.int .i64 (Lib.indexByte s.data.toList c.toNat.toUInt8)) ∧ w' = w := Any.stringslite_IndexByte Try.lays217 s c w
def Try.lays224_ren : Go.Shelf.Ren := ⟨fun | 224 => 35 | n => n, fun | 3 => 3 | n => n, fun | n => n⟩
theorem Try.lays224 : Go.Proofs.Lays.n224 Try.prog Try.lays224_ren := {
  mixed := by kernel_rfl
  f224 := Try.func35.trans (congrArg some (by kernel_rfl))
  t3 := Try.underlying3
  a3 := Try.isAgg3
  z3 := Try.sizeOf3
  v3 := Try.zeroValue3 }
open Go.RowKit Go.Lib in
theorem Try.bytealg_Cutover (n : Int) (h0 : 0 ≤ n) (h1 : n < 4611686018427387904) (w : World) :
    Calls Try.prog 35 #[.int .i64 n] w fun e w' => e = .returned (.int .i64 ((n + 16) / 8)) ∧ w' = w := Any.bytealg_Cutover Try.lays224 n h0 h1 w
def Try.lays314_ren : Go.Shelf.Ren := ⟨fun | 314 => 38 | n => n, fun | 9 => 9 | 51 => 38 | 3 => 3 | 4 => 4 | 5 => 5 | 46 => 72 | n => n, fun | n => n⟩
theorem Try.lays314 : Go.Proofs.Lays.n314 Try.prog Try.lays314_ren := {
  mixed := by kernel_rfl
  f314 := Try.func38.trans (congrArg some (by kernel_rfl))
  t3 := Try.underlying3
  a3 := Try.isAgg3
  z3 := Try.sizeOf3
  v3 := Try.zeroValue3
  t4 := Try.underlying4
  a4 := Try.isAgg4
  z4 := Try.sizeOf4
  v4 := Try.zeroValue4
  t5 := Try.underlying5
  a5 := Try.isAgg5
  z5 := Try.sizeOf5
  v5 := Try.zeroValue5
  t9 := Try.underlying9
  a9 := Try.isAgg9
  z9 := Try.sizeOf9
  v9 := Try.zeroValue9
  t46 := Try.underlying72
  a46 := Try.isAgg72
  z46 := Try.sizeOf72
  v46 := Try.zeroValue72
  t51 := Try.underlying38
  a51 := Try.isAgg38
  z51 := Try.sizeOf38
  v51 := Try.zeroValue38 }
open Go.RowKit Go.Lib in
theorem Try.bytealg_hashStr (sep : ByteArray) (hs : sep.size < 4294967281) (w : World) :
    Calls Try.prog 38 #[.string sep] w fun e w' => e = .returned (.tuple #[.int .u32 (RK.H sep.data.toList % 4294967296), .int .u32 (16777619 ^ sep.size % 4294967296)]) ∧ w' = w := Any.bytealg_hashStr Try.lays314 sep hs w
def Try.lays267_ren : Go.Shelf.Ren := ⟨fun | 267 => 36 | 314 => 38 | n => n, fun | 9 => 9 | 3 => 3 | 146 => 75 | 51 => 38 | 4 => 4 | 5 => 5 | 46 => 72 | n => n, fun | n => n⟩
theorem Try.lays267 : Go.Proofs.Lays.n267 Try.prog Try.lays267_ren := {
  mixed := by kernel_rfl
  f267 := Try.func36.trans (congrArg some (by kernel_rfl))
  f314 := Try.func38.trans (congrArg some (by kernel_rfl))
  t3 := Try.underlying3
  a3 := Try.isAgg3
  z3 := Try.sizeOf3
  v3 := Try.zeroValue3
  t4 := Try.underlying4
  a4 := Try.isAgg4
  z4 := Try.sizeOf4
  v4 := Try.zeroValue4
  t5 := Try.underlying5
  a5 := Try.isAgg5
  z5 := Try.sizeOf5
  v5 := Try.zeroValue5
  t9 := Try.underlying9
  a9 := Try.isAgg9
  z9 := Try.sizeOf9
  v9 := Try.zeroValue9
  t46 := Try.underlying72
  a46 := Try.isAgg72
  z46 := Try.sizeOf72
  v46 := Try.zeroValue72
  t51 := Try.underlying38
  a51 := Try.isAgg38
  z51 := Try.sizeOf38
  v51 := Try.zeroValue38
  t146 := Try.underlying75
  a146 := Try.isAgg75
  z146 := Try.sizeOf75
  v146 := Try.zeroValue75 }
open Go.RowKit Go.Lib in
theorem Try.bytealg_IndexRabinKarp (s sep : ByteArray) (h1 : 1 ≤ sep.size) (h2 : sep.size ≤ s.size) (hs : s.size < 4294967281) (w : World) :
    Calls Try.prog 36 #[.string s, .string sep] w fun e w' => e = .returned (.int .i64 (Lib.index s.data.toList sep.data.toList)) ∧ w' = w := Any.bytealg_IndexRabinKarp Try.lays267 s sep h1 h2 hs w
def Try.lays219_ren : Go.Shelf.Ren := ⟨fun | 219 => 30 | 217 => 33 | 225 => 34 | 224 => 35 | 267 => 36 | 266 => 37 | 314 => 38 | n => n, fun | 9 => 9 | 3 => 3 | 4 => 4 | 5 => 5 | 46 => 72 | 146 => 75 | 51 => 38 | n => n, fun | 1 => 0 | n => n⟩
theorem Try.lays219 : Go.Proofs.Lays.n219 Try.prog Try.lays219_ren := {
  mixed := by kernel_rfl
  f217 := Try.func33.trans (congrArg some (by kernel_rfl))
  f219 := Try.func30.trans (congrArg some (by kernel_rfl))
  f224 := Try.func35.trans (congrArg some (by kernel_rfl))
  f225 := Try.func34.trans (congrArg some (by kernel_rfl))
  f266 := Try.func37.trans (congrArg some (by kernel_rfl))
  f267 := Try.func36.trans (congrArg some (by kernel_rfl))
  f314 := Try.func38.trans (congrArg some (by kernel_rfl))
  t3 := Try.underlying3
  a3 := Try.isAgg3
  z3 := Try.sizeOf3
  v3 := Try.zeroValue3
  t4 := Try.underlying4
  a4 := Try.isAgg4
  z4 := Try.sizeOf4
  v4 := Try.zeroValue4
  t5 := Try.underlying5
  a5 := Try.isAgg5
  z5 := Try.sizeOf5
  v5 := Try.zeroValue5
  t9 := Try.underlying9
  a9 := Try.isAgg9
  z9 := Try.sizeOf9
  v9 := Try.zeroValue9
  t46 := Try.underlying72
  a46 := Try.isAgg72
  z46 := Try.sizeOf72
  v46 := Try.zeroValue72
  t51 := Try.underlying38
  a51 := Try.isAgg38
  z51 := Try.sizeOf38
  v51 := Try.zeroValue38
  t146 := Try.underlying75
  a146 := Try.isAgg75
  z146 := Try.sizeOf75
  v146 := Try.zeroValue75
  g1 := by kernel_rfl }
open Go.RowKit Go.Lib in
theorem Try.stringslite_Index_one (s : ByteArray) (c : UInt8) (w : World) :
    Calls Try.prog 30 #[.string s, .string ⟨#[c]⟩] w fun e w' => e = .returned (.int .i64 (Lib.indexByte s.data.toList c)) ∧ w' = w := Any.stringslite_Index_one Try.lays219 s c w
open Go.RowKit Go.Lib in
theorem Try.stringslite_Index (s sub : ByteArray) (m : Int) (w : World) (hs : s.size < 4294967281) (hm : w.cell? ⟨0, 0, none⟩ = some (.int .i64 m)) :
    Calls Try.prog 30 #[.string s, .string sub] w fun e w' => e = .returned (.int .i64 (Lib.index s.data.toList sub.data.toList)) ∧ w' = w := Any.stringslite_Index Try.lays219 s sub m w hs hm
def Try.lays220_ren : Go.Shelf.Ren := ⟨fun | 220 => 27 | 219 => 30 | 217 => 33 | 225 => 34 | 224 => 35 | 267 => 36 | 266 => 37 | 314 => 38 | n => n, fun | 9 => 9 | 4 => 4 | 3 => 3 | 5 => 5 | 46 => 72 | 146 => 75 | 51 => 38 | n => n, fun | 1 => 0 | n => n⟩
theorem Try.lays220 : Go.Proofs.Lays.n220 Try.prog Try.lays220_ren := {
  mixed := by kernel_rfl
  f217 := Try.func33.trans (congrArg some (by kernel_rfl))
  f219 := Try.func30.trans (congrArg some (by kernel_rfl))
  f220 := Try.func27.trans (congrArg some (by kernel_rfl))
  f224 := Try.func35.trans (congrArg some (by kernel_rfl))
  f225 := Try.func34.trans (congrArg some (by kernel_rfl))
  f266 := Try.func37.trans (congrArg some (by kernel_rfl))
  f267 := Try.func36.trans (congrArg some (by kernel_rfl))
  f314 := Try.func38.trans (congrArg some (by kernel_rfl))
  t3 := Try.underlying3
  a3 := Try.isAgg3
  z3 := Try.sizeOf3
  v3 := Try.zeroValue3
  t4 := Try.underlying4
  a4 := Try.isAgg4
  z4 := Try.sizeOf4
  v4 := Try.zeroValue4
  t5 := Try.underlying5
  a5 := Try.isAgg5
  z5 := Try.sizeOf5
  v5 := Try.zeroValue5
  t9 := Try.underlying9
  a9 := Try.isAgg9
  z9 := Try.sizeOf9
  v9 := Try.zeroValue9
  t46 := Try.underlying72
  a46 := Try.isAgg72
  z46 := Try.sizeOf72
  v46 := Try.zeroValue72
  t51 := Try.underlying38
  a51 := Try.isAgg38
  z51 := Try.sizeOf38
  v51 := Try.zeroValue38
  t146 := Try.underlying75
  a146 := Try.isAgg75
  z146 := Try.sizeOf75
  v146 := Try.zeroValue75
  g1 := by kernel_rfl }
open Go.RowKit Go.Lib in
theorem Try.stringslite_Cut (s sep : ByteArray) (m : Int) (w : World) (hs : s.size < 4294967281) (hm : w.cell? ⟨0, 0, none⟩ = some (.int .i64 m)) :
    Calls Try.prog 27 #[.string s, .string sep] w fun e w' => e = .returned (.tuple #[.string ⟨(Lib.cut s.data.toList sep.data.toList).1.toArray⟩, .string ⟨(Lib.cut s.data.toList sep.data.toList).2.1.toArray⟩, .bool (Lib.cut s.data.toList sep.data.toList).2.2]) ∧ ∃ n, w' = w.drewN n := Any.stringslite_Cut Try.lays220 s sep m w hs hm
def Try.lays145_ren : Go.Shelf.Ren := ⟨fun | 145 => 23 | 220 => 27 | 219 => 30 | 217 => 33 | 225 => 34 | 224 => 35 | 267 => 36 | 266 => 37 | 314 => 38 | n => n, fun | 9 => 9 | 4 => 4 | 59 => 67 | 3 => 3 | 5 => 5 | 46 => 72 | 146 => 75 | 51 => 38 | n => n, fun | 1 => 0 | n => n⟩
theorem Try.lays145 : Go.Proofs.Lays.n145 Try.prog Try.lays145_ren := {
  mixed := by kernel_rfl
  f145 := Try.func23.trans (congrArg some (by kernel_rfl))
  f217 := Try.func33.trans (congrArg some (by kernel_rfl))
  f219 := Try.func30.trans (congrArg some (by kernel_rfl))
  f220 := Try.func27.trans (congrArg some (by kernel_rfl))
  f224 := Try.func35.trans (congrArg some (by kernel_rfl))
  f225 := Try.func34.trans (congrArg some (by kernel_rfl))
  f266 := Try.func37.trans (congrArg some (by kernel_rfl))
  f267 := Try.func36.trans (congrArg some (by kernel_rfl))
  f314 := Try.func38.trans (congrArg some (by kernel_rfl))
  t3 := Try.underlying3
  a3 := Try.isAgg3
  z3 := Try.sizeOf3
  v3 := Try.zeroValue3
  t4 := Try.underlying4
  a4 := Try.isAgg4
  z4 := Try.sizeOf4
  v4 := Try.zeroValue4
  t5 := Try.underlying5
  a5 := Try.isAgg5
  z5 := Try.sizeOf5
  v5 := Try.zeroValue5
  t9 := Try.underlying9
  a9 := Try.isAgg9
  z9 := Try.sizeOf9
  v9 := Try.zeroValue9
  t46 := Try.underlying72
  a46 := Try.isAgg72
  z46 := Try.sizeOf72
  v46 := Try.zeroValue72
  t51 := Try.underlying38
  a51 := Try.isAgg38
  z51 := Try.sizeOf38
  v51 := Try.zeroValue38
  t59 := Try.underlying67
  a59 := Try.isAgg67
  z59 := Try.sizeOf67
  v59 := Try.zeroValue67
  t146 := Try.underlying75
  a146 := Try.isAgg75
  z146 := Try.sizeOf75
  v146 := Try.zeroValue75
  g1 := by kernel_rfl }
open Go.RowKit Go.Lib in
theorem Try.strings_Cut (s sep : ByteArray) (m : Int) (w : World) (hs : s.size < 4294967281) (hm : w.cell? ⟨0, 0, none⟩ = some (.int .i64 m)) :
    Calls Try.prog 23 #[.string s, .string sep] w fun e w' => e = .returned (.tuple #[.string ⟨(Lib.cut s.data.toList sep.data.toList).1.toArray⟩, .string ⟨(Lib.cut s.data.toList sep.data.toList).2.1.toArray⟩, .bool (Lib.cut s.data.toList sep.data.toList).2.2]) ∧ ∃ n, w' = w.drewN n := Any.strings_Cut Try.lays145 s sep m w hs hm
def Try.laysM219_ren : Go.Shelf.Ren := ⟨fun | 219 => 30 | 217 => 33 | 225 => 34 | 224 => 35 | 267 => 36 | 266 => 37 | 314 => 38 | n => n, fun | 9 => 9 | 3 => 3 | 4 => 4 | 5 => 5 | 46 => 72 | 146 => 75 | 51 => 38 | n => n, fun | 1 => 0 | n => n⟩
theorem Try.laysM219 : Go.Proofs.LaysM.n219 Try.prog Try.laysM219_ren := {
  mixed := by kernel_rfl
  f217 := Try.func33.trans (congrArg some (by kernel_rfl))
  f219 := Try.func30.trans (congrArg some (by kernel_rfl))
  f224 := Try.func35.trans (congrArg some (by kernel_rfl))
  f225 := Try.func34.trans (congrArg some (by kernel_rfl))
  f266 := Try.func37.trans (congrArg some (by kernel_rfl))
  f267 := Try.func36.trans (congrArg some (by kernel_rfl))
  f314 := Try.func38.trans (congrArg some (by kernel_rfl))
  t3 := Try.underlying3
  a3 := Try.isAgg3
  z3 := Try.sizeOf3
  v3 := Try.zeroValue3
  t4 := Try.underlying4
  a4 := Try.isAgg4
  z4 := Try.sizeOf4
  v4 := Try.zeroValue4
  t5 := Try.underlying5
  a5 := Try.isAgg5
  z5 := Try.sizeOf5
  v5 := Try.zeroValue5
  t9 := Try.underlying9
  a9 := Try.isAgg9
  z9 := Try.sizeOf9
  v9 := Try.zeroValue9
  t46 := Try.underlying72
  a46 := Try.isAgg72
  z46 := Try.sizeOf72
  v46 := Try.zeroValue72
  t51 := Try.underlying38
  a51 := Try.isAgg38
  z51 := Try.sizeOf38
  v51 := Try.zeroValue38
  t146 := Try.underlying75
  a146 := Try.isAgg75
  z146 := Try.sizeOf75
  v146 := Try.zeroValue75
  g1 := by kernel_rfl
  i3 := by kernel_rfl
  i4 := by kernel_rfl
  i5 := by kernel_rfl
  i9 := by kernel_rfl
  i46 := by kernel_rfl
  i51 := by kernel_rfl
  i146 := by kernel_rfl
  m1 := by kernel_rfl
  s1_3 := fun w h => Go.Proofs.cell_of_shapedOpen_int (zero := #[.int .i64 0]) (t := 3) h (of_decide_eq_true (by kernel_rfl)) (by kernel_rfl) rfl (by kernel_rfl) (by kernel_rfl) Try.underlying3 }
open Go.RowKit Go.Lib in
theorem Try.stringslite_Index_shaped (s sub : ByteArray) (w : World) (h : w.ShapedOpen Try.prog) (hs : s.size < 4294967281) :
    Calls Try.prog 30 #[.string s, .string sub] w fun e w' => e = .returned (.int .i64 (Lib.index s.data.toList sub.data.toList)) ∧ w' = w := Any.stringslite_Index_shaped Try.laysM219 s sub w h hs
def Try.laysM220_ren : Go.Shelf.Ren := ⟨fun | 220 => 27 | 219 => 30 | 217 => 33 | 225 => 34 | 224 => 35 | 267 => 36 | 266 => 37 | 314 => 38 | n => n, fun | 9 => 9 | 4 => 4 | 3 => 3 | 5 => 5 | 46 => 72 | 146 => 75 | 51 => 38 | n => n, fun | 1 => 0 | n => n⟩
theorem Try.laysM220 : Go.Proofs.LaysM.n220 Try.prog Try.laysM220_ren := {
  mixed := by kernel_rfl
  f217 := Try.func33.trans (congrArg some (by kernel_rfl))
  f219 := Try.func30.trans (congrArg some (by kernel_rfl))
  f220 := Try.func27.trans (congrArg some (by kernel_rfl))
  f224 := Try.func35.trans (congrArg some (by kernel_rfl))
  f225 := Try.func34.trans (congrArg some (by kernel_rfl))
  f266 := Try.func37.trans (congrArg some (by kernel_rfl))
  f267 := Try.func36.trans (congrArg some (by kernel_rfl))
  f314 := Try.func38.trans (congrArg some (by kernel_rfl))
  t3 := Try.underlying3
  a3 := Try.isAgg3
  z3 := Try.sizeOf3
  v3 := Try.zeroValue3
  t4 := Try.underlying4
  a4 := Try.isAgg4
  z4 := Try.sizeOf4
  v4 := Try.zeroValue4
  t5 := Try.underlying5
  a5 := Try.isAgg5
  z5 := Try.sizeOf5
  v5 := Try.zeroValue5
  t9 := Try.underlying9
  a9 := Try.isAgg9
  z9 := Try.sizeOf9
  v9 := Try.zeroValue9
  t46 := Try.underlying72
  a46 := Try.isAgg72
  z46 := Try.sizeOf72
  v46 := Try.zeroValue72
  t51 := Try.underlying38
  a51 := Try.isAgg38
  z51 := Try.sizeOf38
  v51 := Try.zeroValue38
  t146 := Try.underlying75
  a146 := Try.isAgg75
  z146 := Try.sizeOf75
  v146 := Try.zeroValue75
  g1 := by kernel_rfl
  i3 := by kernel_rfl
  i4 := by kernel_rfl
  i5 := by kernel_rfl
  i9 := by kernel_rfl
  i46 := by kernel_rfl
  i51 := by kernel_rfl
  i146 := by kernel_rfl
  m1 := by kernel_rfl
  s1_3 := fun w h => Go.Proofs.cell_of_shapedOpen_int (zero := #[.int .i64 0]) (t := 3) h (of_decide_eq_true (by kernel_rfl)) (by kernel_rfl) rfl (by kernel_rfl) (by kernel_rfl) Try.underlying3 }
open Go.RowKit Go.Lib in
theorem Try.stringslite_Cut_shaped (s sep : ByteArray) (w : World) (h : w.ShapedOpen Try.prog) (hs : s.size < 4294967281) :
    Calls Try.prog 27 #[.string s, .string sep] w fun e w' => e = .returned (.tuple #[.string ⟨(Lib.cut s.data.toList sep.data.toList).1.toArray⟩, .string ⟨(Lib.cut s.data.toList sep.data.toList).2.1.toArray⟩, .bool (Lib.cut s.data.toList sep.data.toList).2.2]) ∧ ∃ n, w' = w.drewN n := Any.stringslite_Cut_shaped Try.laysM220 s sep w h hs
def Try.laysM145_ren : Go.Shelf.Ren := ⟨fun | 145 => 23 | 220 => 27 | 219 => 30 | 217 => 33 | 225 => 34 | 224 => 35 | 267 => 36 | 266 => 37 | 314 => 38 | n => n, fun | 9 => 9 | 4 => 4 | 59 => 67 | 3 => 3 | 5 => 5 | 46 => 72 | 146 => 75 | 51 => 38 | n => n, fun | 1 => 0 | n => n⟩
theorem Try.laysM145 : Go.Proofs.LaysM.n145 Try.prog Try.laysM145_ren := {
  mixed := by kernel_rfl
  f145 := Try.func23.trans (congrArg some (by kernel_rfl))
  f217 := Try.func33.trans (congrArg some (by kernel_rfl))
  f219 := Try.func30.trans (congrArg some (by kernel_rfl))
  f220 := Try.func27.trans (congrArg some (by kernel_rfl))
  f224 := Try.func35.trans (congrArg some (by kernel_rfl))
  f225 := Try.func34.trans (congrArg some (by kernel_rfl))
  f266 := Try.func37.trans (congrArg some (by kernel_rfl))
  f267 := Try.func36.trans (congrArg some (by kernel_rfl))
  f314 := Try.func38.trans (congrArg some (by kernel_rfl))
  t3 := Try.underlying3
  a3 := Try.isAgg3
  z3 := Try.sizeOf3
  v3 := Try.zeroValue3
  t4 := Try.underlying4
  a4 := Try.isAgg4
  z4 := Try.sizeOf4
  v4 := Try.zeroValue4
  t5 := Try.underlying5
  a5 := Try.isAgg5
  z5 := Try.sizeOf5
  v5 := Try.zeroValue5
  t9 := Try.underlying9
  a9 := Try.isAgg9
  z9 := Try.sizeOf9
  v9 := Try.zeroValue9
  t46 := Try.underlying72
  a46 := Try.isAgg72
  z46 := Try.sizeOf72
  v46 := Try.zeroValue72
  t51 := Try.underlying38
  a51 := Try.isAgg38
  z51 := Try.sizeOf38
  v51 := Try.zeroValue38
  t59 := Try.underlying67
  a59 := Try.isAgg67
  z59 := Try.sizeOf67
  v59 := Try.zeroValue67
  t146 := Try.underlying75
  a146 := Try.isAgg75
  z146 := Try.sizeOf75
  v146 := Try.zeroValue75
  g1 := by kernel_rfl
  i3 := by kernel_rfl
  i4 := by kernel_rfl
  i5 := by kernel_rfl
  i9 := by kernel_rfl
  i46 := by kernel_rfl
  i51 := by kernel_rfl
  i59 := by kernel_rfl
  i146 := by kernel_rfl
  m1 := by kernel_rfl
  s1_3 := fun w h => Go.Proofs.cell_of_shapedOpen_int (zero := #[.int .i64 0]) (t := 3) h (of_decide_eq_true (by kernel_rfl)) (by kernel_rfl) rfl (by kernel_rfl) (by kernel_rfl) Try.underlying3 }
open Go.RowKit Go.Lib in
theorem Try.strings_Cut_shaped (s sep : ByteArray) (w : World) (h : w.ShapedOpen Try.prog) (hs : s.size < 4294967281) :
    Calls Try.prog 23 #[.string s, .string sep] w fun e w' => e = .returned (.tuple #[.string ⟨(Lib.cut s.data.toList sep.data.toList).1.toArray⟩, .string ⟨(Lib.cut s.data.toList sep.data.toList).2.1.toArray⟩, .bool (Lib.cut s.data.toList sep.data.toList).2.2]) ∧ ∃ n, w' = w.drewN n := Any.strings_Cut_shaped Try.laysM145 s sep w h hs
def Try.lays222_ren : Go.Shelf.Ren := ⟨fun | 222 => 32 | n => n, fun | 9 => 9 | 5 => 5 | 3 => 3 | 4 => 4 | n => n, fun | n => n⟩
theorem Try.lays222 : Go.Proofs.Lays.n222 Try.prog Try.lays222_ren := {
  mixed := by kernel_rfl
  f222 := Try.func32.trans (congrArg some (by kernel_rfl))
  t3 := Try.underlying3
  a3 := Try.isAgg3
  z3 := Try.sizeOf3
  v3 := Try.zeroValue3
  t4 := Try.underlying4
  a4 := Try.isAgg4
  z4 := Try.sizeOf4
  v4 := Try.zeroValue4
  t5 := Try.underlying5
  a5 := Try.isAgg5
  z5 := Try.sizeOf5
  v5 := Try.zeroValue5
  t9 := Try.underlying9
  a9 := Try.isAgg9
  z9 := Try.sizeOf9
  v9 := Try.zeroValue9 }
open Go.RowKit Go.Lib in
theorem Try.bytealg_LastIndexByteString_nm (s : ByteArray) (c : Int) (hs : s.size < 4611686018427387904) (w : World) :
    Calls Try.prog 32 #[.string s, .int .u8 c] w fun e w' => e = .returned (.int .i64 (Lib.lastIndexByte s c)) ∧ w' = w := Any.bytealg_LastIndexByteString_nm Try.lays222 s c hs w
def Try.lays149_ren : Go.Shelf.Ren := ⟨fun | 149 => 29 | 222 => 32 | n => n, fun | 9 => 9 | 5 => 5 | 3 => 3 | 4 => 4 | n => n, fun | n => n⟩
theorem Try.lays149 : Go.Proofs.Lays.n149 Try.prog Try.lays149_ren := {
  mixed := by kernel_rfl
  f149 := Try.func29.trans (congrArg some (by kernel_rfl))
  f222 := Try.func32.trans (congrArg some (by kernel_rfl))
  t3 := Try.underlying3
  a3 := Try.isAgg3
  z3 := Try.sizeOf3
  v3 := Try.zeroValue3
  t4 := Try.underlying4
  a4 := Try.isAgg4
  z4 := Try.sizeOf4
  v4 := Try.zeroValue4
  t5 := Try.underlying5
  a5 := Try.isAgg5
  z5 := Try.sizeOf5
  v5 := Try.zeroValue5
  t9 := Try.underlying9
  a9 := Try.isAgg9
  z9 := Try.sizeOf9
  v9 := Try.zeroValue9 }
open Go.RowKit Go.Lib in
theorem Try.strings_LastIndexByte (s : ByteArray) (c : Int) (hs : s.size < 4611686018427387904) (w : World) :
    Calls Try.prog 29 #[.string s, .int .u8 c] w fun e w' => e = .returned (.int .i64 (Lib.lastIndexByte s c)) ∧ w' = w := Any.strings_LastIndexByte Try.lays149 s c hs w
def Try.lays206_ren : Go.Shelf.Ren := ⟨fun | 206 => 31 | n => n, fun | 9 => 9 | 4 => 4 | 3 => 3 | n => n, fun | n => n⟩
theorem Try.lays206 : Go.Proofs.Lays.n206 Try.prog Try.lays206_ren := {
  mixed := by kernel_rfl
  f206 := Try.func31.trans (congrArg some (by kernel_rfl))
  t3 := Try.underlying3
  a3 := Try.isAgg3
  z3 := Try.sizeOf3
  v3 := Try.zeroValue3
  t4 := Try.underlying4
  a4 := Try.isAgg4
  z4 := Try.sizeOf4
  v4 := Try.zeroValue4
  t9 := Try.underlying9
  a9 := Try.isAgg9
  z9 := Try.sizeOf9
  v9 := Try.zeroValue9 }
open Go.RowKit Go.Lib in
theorem Try.stringslite_HasPrefix (s p : ByteArray) (w : World) :
    Calls Try.prog 31 #[.string s, .string p] w fun e w' => e = .returned (.bool (Lib.hasPrefix s.data.toList p.data.toList)) ∧ w' = w := Any.stringslite_HasPrefix Try.lays206 s p w
def Try.lays99_ren : Go.Shelf.Ren := ⟨fun | 99 => 28 | 206 => 31 | n => n, fun | 9 => 9 | 4 => 4 | 3 => 3 | n => n, fun | n => n⟩
theorem Try.lays99 : Go.Proofs.Lays.n99 Try.prog Try.lays99_ren := {
  mixed := by kernel_rfl
  f99 := Try.func28.trans (congrArg some (by kernel_rfl))
  f206 := Try.func31.trans (congrArg some (by kernel_rfl))
  t3 := Try.underlying3
  a3 := Try.isAgg3
  z3 := Try.sizeOf3
  v3 := Try.zeroValue3
  t4 := Try.underlying4
  a4 := Try.isAgg4
  z4 := Try.sizeOf4
  v4 := Try.zeroValue4
  t9 := Try.underlying9
  a9 := Try.isAgg9
  z9 := Try.sizeOf9
  v9 := Try.zeroValue9 }
open Go.RowKit Go.Lib in
theorem Try.strings_HasPrefix (s p : ByteArray) (w : World) :
    Calls Try.prog 28 #[.string s, .string p] w fun e w' => e = .returned (.bool (Lib.hasPrefix s.data.toList p.data.toList)) ∧ w' = w := Any.strings_HasPrefix Try.lays99 s p w
end Go.Proofs
