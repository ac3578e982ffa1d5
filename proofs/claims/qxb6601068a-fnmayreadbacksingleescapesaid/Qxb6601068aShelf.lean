import Derived.Shelf.Bytes.SlIndexWhole
import Derived.Shelf.LaysM
import Derived.Test.Qxb6601068aProg
namespace Go.Proofs
open Go.Shelf
def Try.lays185_ren : Go.Shelf.Ren := ⟨fun | 185 => 27 | 187 => 29 | 115 => 30 | 253 => 31 | 224 => 32 | 254 => 33 | 255 => 34 | 291 => 35 | n => n, fun | 37 => 24 | 3 => 3 | 4 => 4 | 0 => 0 | 5 => 5 | 46 => 37 | 9 => 9 | 146 => 44 | 51 => 43 | n => n, fun | 1 => 0 | n => n⟩
theorem Try.lays185 : Go.Proofs.Lays.n185 Try.prog Try.lays185_ren := {
  mixed := by kernel_rfl
  f115 := Try.func30.trans (congrArg some (by kernel_rfl))
  f185 := Try.func27.trans (congrArg some (by kernel_rfl))
  f187 := Try.func29.trans (congrArg some (by kernel_rfl))
  f224 := Try.func32.trans (congrArg some (by kernel_rfl))
  f253 := Try.func31.trans (congrArg some (by kernel_rfl))
  f254 := Try.func33.trans (congrArg some (by kernel_rfl))
  f255 := Try.func34.trans (congrArg some (by kernel_rfl))
  f291 := Try.func35.trans (congrArg some (by kernel_rfl))
  t0 := Try.underlying0
  a0 := Try.isAgg0
  z0 := Try.sizeOf0
  v0 := Try.zeroValue0
  t3 := Try.underlying3
  a3 := Try.isAgg3
  z3 := Try.sizeOf3
  v3 := Try.zeroValue3
  t4 := Try.underlying4
  a4 := Try.isAgg4
  z4 := Try.sizeOf4
  v4 := Try.zeroValue4
  t5 := Try.underlying5
  a5 := Try.isAgg5
  z5 := Try.sizeOf5
  v5 := Try.zeroValue5
  t9 := Try.underlying9
  a9 := Try.isAgg9
  z9 := Try.sizeOf9
  v9 := Try.zeroValue9
  t37 := Try.underlying24
  a37 := Try.isAgg24
  z37 := Try.sizeOf24
  v37 := Try.zeroValue24
  t46 := Try.underlying37
  a46 := Try.isAgg37
  z46 := Try.sizeOf37
  v46 := Try.zeroValue37
  t51 := Try.underlying43
  a51 := Try.isAgg43
  z51 := Try.sizeOf43
  v51 := Try.zeroValue43
  t146 := Try.underlying44
  a146 := Try.isAgg44
  z146 := Try.sizeOf44
  v146 := Try.zeroValue44
  g1 := by kernel_rfl }
open Go.Proofs Go.RowKit Go.Lib in
theorem Try.bytes_Index_at (a1 a2 : Addr) (n c1 k c2 : Nat) (xs ys : List Int) (m : Int) (w : World) (hx : xs.length = n) (hy : ys.length = k) (hr1 : ∀ x ∈ xs, 0 ≤ x ∧ x < 256) (hr2 : ∀ y ∈ ys, 0 ≤ y ∧ y < 256) (hc1 : ∀ i, i < n → w.cell? (a1.add i) = some (.int .u8 (xs.getD i 0))) (hc2 : ∀ i, i < k → w.cell? (a2.add i) = some (.int .u8 (ys.getD i 0))) (hcap : n ≤ c1) (hs : n < 4294967281) (hk : k ≤ 9223372036854775807) (hm : w.cell? ⟨0, 0, none⟩ = some (.int .i64 m)) :
    Calls Try.prog 27 #[.slice (some a1) n c1, .slice (some a2) k c2] w fun e w' => e = .returned (.int .i64 (Lib.index (Lib.bytesOf xs) (Lib.bytesOf ys))) ∧ ∃ q, w' = w.drewN q := Any.bytes_Index_at Try.lays185 a1 a2 n c1 k c2 xs ys m w hx hy hr1 hr2 hc1 hc2 hcap hs hk hm
open Go.Proofs Go.RowKit Go.Lib in
theorem Try.bytes_Index_nil (p2 : Option Addr) (k c2 : Nat) (w : World) (hk : k ≤ 9223372036854775807) (h1 : k = 1 → ∃ b2 o2 cv, p2 = some ⟨b2, o2, none⟩ ∧ w.cell? ⟨b2, o2, none⟩ = some (.int .u8 cv)) :
    Calls Try.prog 27 #[.slice none 0 0, .slice p2 k c2] w fun e w' => e = .returned (.int .i64 (if k = 0 then 0 else -1)) ∧ w' = w := Any.bytes_Index_nil Try.lays185 p2 k c2 w hk h1
def Try.lays186_ren : Go.Shelf.Ren := ⟨fun | 186 => 26 | 185 => 27 | 187 => 29 | 115 => 30 | 253 => 31 | 224 => 32 | 254 => 33 | 255 => 34 | 291 => 35 | n => n, fun | 37 => 24 | 4 => 4 | 3 => 3 | 0 => 0 | 5 => 5 | 46 => 37 | 9 => 9 | 146 => 44 | 51 => 43 | n => n, fun | 1 => 0 | n => n⟩
theorem Try.lays186 : Go.Proofs.Lays.n186 Try.prog Try.lays186_ren := {
  mixed := by kernel_rfl
  f115 := Try.func30.trans (congrArg some (by kernel_rfl))
  f185 := Try.func27.trans (congrArg some (by kernel_rfl))
  f186 := Try.func26.trans (congrArg some (by kernel_rfl))
  f187 := Try.func29.trans (congrArg some (by kernel_rfl))
  f224 := Try.func32.trans (congrArg some (by kernel_rfl))
  f253 := Try.func31.trans (congrArg some (by kernel_rfl))
  f254 := Try.func33.trans (congrArg some (by kernel_rfl))
  f255 := Try.func34.trans (congrArg some (by kernel_rfl))
  f291 := Try.func35.trans (congrArg some (by kernel_rfl))
  t0 := Try.underlying0
  a0 := Try.isAgg0
  z0 := Try.sizeOf0
  v0 := Try.zeroValue0
  t3 := Try.underlying3
  a3 := Try.isAgg3
  z3 := Try.sizeOf3
  v3 := Try.zeroValue3
  t4 := Try.underlying4
  a4 := Try.isAgg4
  z4 := Try.sizeOf4
  v4 := Try.zeroValue4
  t5 := Try.underlying5
  a5 := Try.isAgg5
  z5 := Try.sizeOf5
  v5 := Try.zeroValue5
  t9 := Try.underlying9
  a9 := Try.isAgg9
  z9 := Try.sizeOf9
  v9 := Try.zeroValue9
  t37 := Try.underlying24
  a37 := Try.isAgg24
  z37 := Try.sizeOf24
  v37 := Try.zeroValue24
  t46 := Try.underlying37
  a46 := Try.isAgg37
  z46 := Try.sizeOf37
  v46 := Try.zeroValue37
  t51 := Try.underlying43
  a51 := Try.isAgg43
  z51 := Try.sizeOf43
  v51 := Try.zeroValue43
  t146 := Try.underlying44
  a146 := Try.isAgg44
  z146 := Try.sizeOf44
  v146 := Try.zeroValue44
  g1 := by kernel_rfl }
open Go.Proofs Go.RowKit Go.Lib in
theorem Try.bytes_Contains_at (a1 a2 : Addr) (n c1 k c2 : Nat) (xs ys : List Int) (m : Int) (w : World) (hx : xs.length = n) (hy : ys.length = k) (hr1 : ∀ x ∈ xs, 0 ≤ x ∧ x < 256) (hr2 : ∀ y ∈ ys, 0 ≤ y ∧ y < 256) (hc1 : ∀ i, i < n → w.cell? (a1.add i) = some (.int .u8 (xs.getD i 0))) (hc2 : ∀ i, i < k → w.cell? (a2.add i) = some (.int .u8 (ys.getD i 0))) (hcap : n ≤ c1) (hs : n < 4294967281) (hk : k ≤ 9223372036854775807) (hm : w.cell? ⟨0, 0, none⟩ = some (.int .i64 m)) :
    Calls Try.prog 26 #[.slice (some a1) n c1, .slice (some a2) k c2] w fun e w' => e = .returned (.bool (Lib.contains (Lib.bytesOf xs) (Lib.bytesOf ys))) ∧ ∃ q, w' = w.drewN q := Any.bytes_Contains_at Try.lays186 a1 a2 n c1 k c2 xs ys m w hx hy hr1 hr2 hc1 hc2 hcap hs hk hm
open Go.Proofs Go.RowKit Go.Lib in
theorem Try.bytes_Contains_nil (p2 : Option Addr) (k c2 : Nat) (w : World) (hk : k ≤ 9223372036854775807) (h1 : k = 1 → ∃ b2 o2 cv, p2 = some ⟨b2, o2, none⟩ ∧ w.cell? ⟨b2, o2, none⟩ = some (.int .u8 cv)) :
    Calls Try.prog 26 #[.slice none 0 0, .slice p2 k c2] w fun e w' => e = .returned (.bool (decide (k = 0))) ∧ w' = w := Any.bytes_Contains_nil Try.lays186 p2 k c2 w hk h1
def Try.laysM185_ren : Go.Shelf.Ren := ⟨fun | 185 => 27 | 187 => 29 | 115 => 30 | 253 => 31 | 224 => 32 | 254 => 33 | 255 => 34 | 291 => 35 | n => n, fun | 37 => 24 | 3 => 3 | 4 => 4 | 0 => 0 | 5 => 5 | 46 => 37 | 9 => 9 | 146 => 44 | 51 => 43 | n => n, fun | 1 => 0 | n => n⟩
theorem Try.laysM185 : Go.Proofs.LaysM.n185 Try.prog Try.laysM185_ren := {
  mixed := by kernel_rfl
  f115 := Try.func30.trans (congrArg some (by kernel_rfl))
  f185 := Try.func27.trans (congrArg some (by kernel_rfl))
  f187 := Try.func29.trans (congrArg some (by kernel_rfl))
  f224 := Try.func32.trans (congrArg some (by kernel_rfl))
  f253 := Try.func31.trans (congrArg some (by kernel_rfl))
  f254 := Try.func33.trans (congrArg some (by kernel_rfl))
  f255 := Try.func34.trans (congrArg some (by kernel_rfl))
  f291 := Try.func35.trans (congrArg some (by kernel_rfl))
  t0 := Try.underlying0
  a0 := Try.isAgg0
  z0 := Try.sizeOf0
  v0 := Try.zeroValue0
  t3 := Try.underlying3
  a3 := Try.isAgg3
  z3 := Try.sizeOf3
  v3 := Try.zeroValue3
  t4 := Try.underlying4
  a4 := Try.isAgg4
  z4 := Try.sizeOf4
  v4 := Try.zeroValue4
  t5 := Try.underlying5
  a5 := Try.isAgg5
  z5 := Try.sizeOf5
  v5 := Try.zeroValue5
  t9 := Try.underlying9
  a9 := Try.isAgg9
  z9 := Try.sizeOf9
  v9 := Try.zeroValue9
  t37 := Try.underlying24
  a37 := Try.isAgg24
  z37 := Try.sizeOf24
  v37 := Try.zeroValue24
  t46 := Try.underlying37
  a46 := Try.isAgg37
  z46 := Try.sizeOf37
  v46 := Try.zeroValue37
  t51 := Try.underlying43
  a51 := Try.isAgg43
  z51 := Try.sizeOf43
  v51 := Try.zeroValue43
  t146 := Try.underlying44
  a146 := Try.isAgg44
  z146 := Try.sizeOf44
  v146 := Try.zeroValue44
  g1 := by kernel_rfl
  i0 := by kernel_rfl
  i3 := by kernel_rfl
  i4 := by kernel_rfl
  i5 := by kernel_rfl
  i9 := by kernel_rfl
  i37 := by kernel_rfl
  i46 := by kernel_rfl
  i51 := by kernel_rfl
  i146 := by kernel_rfl
  m1 := by kernel_rfl
  s1_3 := fun w h => Go.Proofs.cell_of_shapedOpen_int (zero := #[.int .i64 0]) (t := 3) h (of_decide_eq_true (by kernel_rfl)) (by kernel_rfl) rfl (by kernel_rfl) (by kernel_rfl) Try.underlying3 }
open Go.Proofs Go.RowKit Go.Lib in
theorem Try.bytes_Index_at_shaped (a1 a2 : Addr) (n c1 k c2 : Nat) (xs ys : List Int) (w : World) (hx : xs.length = n) (hy : ys.length = k) (hr1 : ∀ x ∈ xs, 0 ≤ x ∧ x < 256) (hr2 : ∀ y ∈ ys, 0 ≤ y ∧ y < 256) (hc1 : ∀ i, i < n → w.cell? (a1.add i) = some (.int .u8 (xs.getD i 0))) (hc2 : ∀ i, i < k → w.cell? (a2.add i) = some (.int .u8 (ys.getD i 0))) (hcap : n ≤ c1) (hs : n < 4294967281) (hk : k ≤ 9223372036854775807) (h : w.ShapedOpen Try.prog) :
    Calls Try.prog 27 #[.slice (some a1) n c1, .slice (some a2) k c2] w fun e w' => e = .returned (.int .i64 (Lib.index (Lib.bytesOf xs) (Lib.bytesOf ys))) ∧ ∃ q, w' = w.drewN q := Any.bytes_Index_at_shaped Try.laysM185 a1 a2 n c1 k c2 xs ys w hx hy hr1 hr2 hc1 hc2 hcap hs hk h
def Try.laysM186_ren : Go.Shelf.Ren := ⟨fun | 186 => 26 | 185 => 27 | 187 => 29 | 115 => 30 | 253 => 31 | 224 => 32 | 254 => 33 | 255 => 34 | 291 => 35 | n => n, fun | 37 => 24 | 4 => 4 | 3 => 3 | 0 => 0 | 5 => 5 | 46 => 37 | 9 => 9 | 146 => 44 | 51 => 43 | n => n, fun | 1 => 0 | n => n⟩
theorem Try.laysM186 : Go.Proofs.LaysM.n186 Try.prog Try.laysM186_ren := {
  mixed := by kernel_rfl
  f115 := Try.func30.trans (congrArg some (by kernel_rfl))
  f185 := Try.func27.trans (congrArg some (by kernel_rfl))
  f186 := Try.func26.trans (congrArg some (by kernel_rfl))
  f187 := Try.func29.trans (congrArg some (by kernel_rfl))
  f224 := Try.func32.trans (congrArg some (by kernel_rfl))
  f253 := Try.func31.trans (congrArg some (by kernel_rfl))
  f254 := Try.func33.trans (congrArg some (by kernel_rfl))
  f255 := Try.func34.trans (congrArg some (by kernel_rfl))
  f291 := Try.func35.trans (congrArg some (by kernel_rfl))
  t0 := Try.underlying0
  a0 := Try.isAgg0
  z0 := Try.sizeOf0
  v0 := Try.zeroValue0
  t3 := Try.underlying3
  a3 := Try.isAgg3
  z3 := Try.sizeOf3
  v3 := Try.zeroValue3
  t4 := Try.underlying4
  a4 := Try.isAgg4
  z4 := Try.sizeOf4
  v4 := Try.zeroValue4
  t5 := Try.underlying5
  a5 := Try.isAgg5
  z5 := Try.sizeOf5
  v5 := Try.zeroValue5
  t9 := Try.underlying9
  a9 := Try.isAgg9
  z9 := Try.sizeOf9
  v9 := Try.zeroValue9
  t37 := Try.underlying24
  a37 := Try.isAgg24
  z37 := Try.sizeOf24
  v37 := Try.zeroValue24
  t46 := Try.underlying37
  a46 := Try.isAgg37
  z46 := Try.sizeOf37
  v46 := Try.zeroValue37
  t51 := Try.underlying43
  a51 := Try.isAgg43
  z51 := Try.sizeOf43
  v51 := Try.zeroValue43
  t146 := Try.underlying44
  a146 := Try.isAgg44
  z146 := Try.sizeOf44
  v146 := Try.zeroValue44
  g1 := by kernel_rfl
  i0 := by kernel_rfl
  i3 := by kernel_rfl
  i4 := by kernel_rfl
  i5 := by kernel_rfl
  i9 := by kernel_rfl
  i37 := by kernel_rfl
  i46 := by kernel_rfl
  i51 := by kernel_rfl
  i146 := by kernel_rfl
  m1 := by kernel_rfl
  s1_3 := fun w h => Go.Proofs.cell_of_shapedOpen_int (zero := #[.int .i64 0]) (t := 3) h (of_decide_eq_true (by kernel_rfl)) (by kernel_rfl) rfl (by kernel_rfl) (by kernel_rfl) Try.underlying3 }
open Go.Proofs Go.RowKit Go.Lib in
theorem Try.bytes_Contains_at_shaped (a1 a2 : Addr) (n c1 k c2 : Nat) (xs ys : List Int) (w : World) (hx : xs.length = n) (hy : ys.length = k) (hr1 : ∀ x ∈ xs, 0 ≤ x ∧ x < 256) (hr2 : ∀ y ∈ ys, 0 ≤ y ∧ y < 256) (hc1 : ∀ i, i < n → w.cell? (a1.add i) = some (.int .u8 (xs.getD i 0))) (hc2 : ∀ i, i < k → w.cell? (a2.add i) = some (.int .u8 (ys.getD i 0))) (hcap : n ≤ c1) (hs : n < 4294967281) (hk : k ≤ 9223372036854775807) (h : w.ShapedOpen Try.prog) :
    Calls Try.prog 26 #[.slice (some a1) n c1, .slice (some a2) k c2] w fun e w' => e = .returned (.bool (Lib.contains (Lib.bytesOf xs) (Lib.bytesOf ys))) ∧ ∃ q, w' = w.drewN q := Any.bytes_Contains_at_shaped Try.laysM186 a1 a2 n c1 k c2 xs ys w hx hy hr1 hr2 hc1 hc2 hcap hs hk h
end Go.Proofs
