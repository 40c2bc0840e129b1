import Derived.Shelf.LaysM
import Derived.Shelf.Bytes.SlSmallAll
import Derived.Shelf.Bytes.SlCut
import Derived.Test.Qxb6002908aProg
namespace Go.Proofs
open Go.Shelf
def Try.laysM185_ren : Go.Shelf.Ren := ⟨fun | 185 => 13 | 187 => 15 | 115 => 16 | 253 => 17 | 224 => 18 | 254 => 19 | 255 => 20 | 291 => 21 | n => n, fun | 37 => 28 | 3 => 3 | 4 => 4 | 0 => 0 | 5 => 5 | 46 => 42 | 9 => 9 | 146 => 44 | 51 => 43 | n => n, fun | 1 => 0 | n => n⟩
theorem Try.laysM185 : Go.Proofs.LaysM.n185 Try.prog Try.laysM185_ren := {
  mixed := by kernel_rfl
  f115 := Try.func16.trans (congrArg some (by kernel_rfl))
  f185 := Try.func13.trans (congrArg some (by kernel_rfl))
  f187 := Try.func15.trans (congrArg some (by kernel_rfl))
  f224 := Try.func18.trans (congrArg some (by kernel_rfl))
  f253 := Try.func17.trans (congrArg some (by kernel_rfl))
  f254 := Try.func19.trans (congrArg some (by kernel_rfl))
  f255 := Try.func20.trans (congrArg some (by kernel_rfl))
  f291 := Try.func21.trans (congrArg some (by kernel_rfl))
  t0 := Try.underlying0
  a0 := Try.isAgg0
  z0 := Try.sizeOf0
  v0 := Try.zeroValue0
  t3 := Try.underlying3
  a3 := Try.isAgg3
  z3 := Try.sizeOf3
  v3 := Try.zeroValue3
  t4 := Try.underlying4
  a4 := Try.isAgg4
  z4 := Try.sizeOf4
  v4 := Try.zeroValue4
  t5 := Try.underlying5
  a5 := Try.isAgg5
  z5 := Try.sizeOf5
  v5 := Try.zeroValue5
  t9 := Try.underlying9
  a9 := Try.isAgg9
  z9 := Try.sizeOf9
  v9 := Try.zeroValue9
  t37 := Try.underlying28
  a37 := Try.isAgg28
  z37 := Try.sizeOf28
  v37 := Try.zeroValue28
  t46 := Try.underlying42
  a46 := Try.isAgg42
  z46 := Try.sizeOf42
  v46 := Try.zeroValue42
  t51 := Try.underlying43
  a51 := Try.isAgg43
  z51 := Try.sizeOf43
  v51 := Try.zeroValue43
  t146 := Try.underlying44
  a146 := Try.isAgg44
  z146 := Try.sizeOf44
  v146 := Try.zeroValue44
  g1 := by kernel_rfl
  i0 := by kernel_rfl
  i3 := by kernel_rfl
  i4 := by kernel_rfl
  i5 := by kernel_rfl
  i9 := by kernel_rfl
  i37 := by kernel_rfl
  i46 := by kernel_rfl
  i51 := by kernel_rfl
  i146 := by kernel_rfl
  m1 := by kernel_rfl
  s1_3 := fun w h => Go.Proofs.cell_of_shapedOpen_int (zero := #[.int .i64 0]) (t := 3) h (of_decide_eq_true (by kernel_rfl)) (by kernel_rfl) rfl (by kernel_rfl) (by kernel_rfl) Try.underlying3 }
def Try.laysnb139_ren : Go.Shelf.Ren := ⟨fun | 139 => 12 | 116 => 14 | 115 => 16 | n => n, fun | 37 => 28 | 4 => 4 | 3 => 3 | 9 => 9 | 5 => 5 | n => n, fun | n => n⟩
theorem Try.laysnb139 : Go.Proofs.Lays.nb139 Try.prog Try.laysnb139_ren := {
  mixed := by kernel_rfl
  f115 := Try.func16.trans (congrArg some (by kernel_rfl))
  f116 := Try.func14.trans (congrArg some (by kernel_rfl))
  f139 := Try.func12.trans (congrArg some (by kernel_rfl))
  t3 := Try.underlying3
  a3 := Try.isAgg3
  z3 := Try.sizeOf3
  v3 := Try.zeroValue3
  t4 := Try.underlying4
  a4 := Try.isAgg4
  z4 := Try.sizeOf4
  v4 := Try.zeroValue4
  t9 := Try.underlying9
  a9 := Try.isAgg9
  z9 := Try.sizeOf9
  v9 := Try.zeroValue9
  t37 := Try.underlying28
  a37 := Try.isAgg28
  z37 := Try.sizeOf28
  v37 := Try.zeroValue28
  t5 := Try.underlying5
  a5 := Try.isAgg5
  z5 := Try.sizeOf5
  v5 := Try.zeroValue5 }
theorem Try.bytes_TrimPrefix_all (p1 p2 : Option Addr) (n c m d : Nat) (xs ys : List Int) (w : World) (hx : xs.length = n) (hy : ys.length = m) (hnc : n ≤ c) (h1 : Lib.BytesIn w p1 n xs) (h2 : Lib.BytesIn w p2 m ys) :
    Calls Try.prog 12 #[.slice p1 n c, .slice p2 m d] w fun e w' => e = .returned (Lib.trimPrefixV p1 n c xs ys) ∧ w' = w := Any.bytes_TrimPrefix_all Try.laysnb139 p1 p2 n c m d xs ys w hx hy hnc h1 h2
def Try.laysSlT4_ren : Go.Shelf.Ren := ⟨fun | 4 => 11 | 5 => 13 | 6 => 15 | 7 => 16 | 8 => 17 | 9 => 18 | 10 => 19 | 11 => 20 | 12 => 21 | n => n, fun | 22 => 28 | 4 => 4 | 3 => 3 | 0 => 0 | 5 => 5 | 29 => 42 | 9 => 9 | 31 => 44 | 30 => 43 | n => n, fun | 0 => 0 | n => n⟩
theorem Try.laysSlT4 : Go.Proofs.SlLaysT.n4 Try.prog Try.laysSlT4_ren := {
  mixed := by kernel_rfl
  f4 := Try.func11.trans (congrArg some (by kernel_rfl))
  f5 := Try.func13.trans (congrArg some (by kernel_rfl))
  f6 := Try.func15.trans (congrArg some (by kernel_rfl))
  f7 := Try.func16.trans (congrArg some (by kernel_rfl))
  f8 := Try.func17.trans (congrArg some (by kernel_rfl))
  f9 := Try.func18.trans (congrArg some (by kernel_rfl))
  f10 := Try.func19.trans (congrArg some (by kernel_rfl))
  f11 := Try.func20.trans (congrArg some (by kernel_rfl))
  f12 := Try.func21.trans (congrArg some (by kernel_rfl))
  t0 := Try.underlying0
  a0 := Try.isAgg0
  z0 := Try.sizeOf0
  v0 := Try.zeroValue0
  t3 := Try.underlying3
  a3 := Try.isAgg3
  z3 := Try.sizeOf3
  v3 := Try.zeroValue3
  t4 := Try.underlying4
  a4 := Try.isAgg4
  z4 := Try.sizeOf4
  v4 := Try.zeroValue4
  t5 := Try.underlying5
  a5 := Try.isAgg5
  z5 := Try.sizeOf5
  v5 := Try.zeroValue5
  t9 := Try.underlying9
  a9 := Try.isAgg9
  z9 := Try.sizeOf9
  v9 := Try.zeroValue9
  t22 := Try.underlying28
  a22 := Try.isAgg28
  z22 := Try.sizeOf28
  v22 := Try.zeroValue28
  t29 := Try.underlying42
  a29 := Try.isAgg42
  z29 := Try.sizeOf42
  v29 := Try.zeroValue42
  t30 := Try.underlying43
  a30 := Try.isAgg43
  z30 := Try.sizeOf43
  v30 := Try.zeroValue43
  t31 := Try.underlying44
  a31 := Try.isAgg44
  z31 := Try.sizeOf44
  v31 := Try.zeroValue44
  g0 := by kernel_rfl }
theorem Try.bytes_Cut_all (p1 p2 : Option Addr) (n c1 k c2 : Nat) (xs ys : List Int) (m : Int) (w : World) (hx : xs.length = n) (hy : ys.length = k) (hr1 : ∀ x ∈ xs, 0 ≤ x ∧ x < 256) (hr2 : ∀ y ∈ ys, 0 ≤ y ∧ y < 256) (h1 : Lib.BytesIn w p1 n xs) (h2 : Lib.BytesIn w p2 k ys) (hp1 : p1 = none → c1 = 0) (hcap : n ≤ c1) (hs : n < 4294967281) (hk : k ≤ 9223372036854775807) (hm : w.cell? ⟨0, 0, none⟩ = some (.int .i64 m)) :
    Calls Try.prog 11 #[.slice p1 n c1, .slice p2 k c2] w fun e w' => e = .returned (Lib.cutV p1 n c1 k (Lib.index (Lib.bytesOf xs) (Lib.bytesOf ys))) ∧ ∃ q, w' = w.drewN q := Any.bytes_Cut_all Try.laysSlT4 p1 p2 n c1 k c2 xs ys m w hx hy hr1 hr2 h1 h2 hp1 hcap hs hk hm
end Go.Proofs
