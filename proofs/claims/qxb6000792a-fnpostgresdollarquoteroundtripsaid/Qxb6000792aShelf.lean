/-
  strings.Index (39), laid at this seat's translation off the kit's shelf of contracts (written by the kit's own tools for this program, in plain words): what it returns, whatever internal/bytealg.MaxLen holds; and that MaxLen's cell holds some int in every world of the program's shape.
-/
import Derived.Shelf.Strings.Search3
import Derived.Shelf.LaysM
import Derived.Shelf.Strings.Shaped
import Derived.Test.Qxb6000792aProg
namespace Go.Proofs.Qxb6000792a
open Go.Shelf
def Sh.lays143_ren : Go.Shelf.Ren := ⟨fun | 143 => 39 | 219 => 41 | 217 => 37 | 225 => 42 | 224 => 43 | 267 => 44 | 266 => 40 | 314 => 45 | n => n, fun | 9 => 9 | 3 => 3 | 4 => 4 | 5 => 5 | 46 => 50 | 146 => 52 | 51 => 51 | n => n, fun | 1 => 0 | n => n⟩
theorem Sh.lays143 : Go.Proofs.Lays.n143 Try.prog Sh.lays143_ren := {
  mixed := by kernel_rfl
  f143 := Try.func39.trans (congrArg some (by kernel_rfl))
  f217 := Try.func37.trans (congrArg some (by kernel_rfl))
  f219 := Try.func41.trans (congrArg some (by kernel_rfl))
  f224 := Try.func43.trans (congrArg some (by kernel_rfl))
  f225 := Try.func42.trans (congrArg some (by kernel_rfl))
  f266 := Try.func40.trans (congrArg some (by kernel_rfl))
  f267 := Try.func44.trans (congrArg some (by kernel_rfl))
  f314 := Try.func45.trans (congrArg some (by kernel_rfl))
  t3 := Try.underlying3
  a3 := Try.isAgg3
  z3 := Try.sizeOf3
  v3 := Try.zeroValue3
  t4 := Try.underlying4
  a4 := Try.isAgg4
  z4 := Try.sizeOf4
  v4 := Try.zeroValue4
  t5 := Try.underlying5
  a5 := Try.isAgg5
  z5 := Try.sizeOf5
  v5 := Try.zeroValue5
  t9 := Try.underlying9
  a9 := Try.isAgg9
  z9 := Try.sizeOf9
  v9 := Try.zeroValue9
  t46 := Try.underlying50
  a46 := Try.isAgg50
  z46 := Try.sizeOf50
  v46 := Try.zeroValue50
  t51 := Try.underlying51
  a51 := Try.isAgg51
  z51 := Try.sizeOf51
  v51 := Try.zeroValue51
  t146 := Try.underlying52
  a146 := Try.isAgg52
  z146 := Try.sizeOf52
  v146 := Try.zeroValue52
  g1 := by kernel_rfl }
open Go.RowKit Go.Lib in
theorem Sh.strings_Index (s sub : ByteArray) (m : Int) (w : World) (hs : s.size < 4294967281) (hm : w.cell? ⟨0, 0, none⟩ = some (.int .i64 m)) :
    Calls Try.prog 39 #[.string s, .string sub] w fun e w' => e = .returned (.int .i64 (Lib.index s.data.toList sub.data.toList)) ∧ w' = w := Any.strings_Index Sh.lays143 s sub m w hs hm
def Sh.laysM143_ren : Go.Shelf.Ren := ⟨fun | 143 => 39 | 219 => 41 | 217 => 37 | 225 => 42 | 224 => 43 | 267 => 44 | 266 => 40 | 314 => 45 | n => n, fun | 9 => 9 | 3 => 3 | 4 => 4 | 5 => 5 | 46 => 50 | 146 => 52 | 51 => 51 | n => n, fun | 1 => 0 | n => n⟩
theorem Sh.laysM143 : Go.Proofs.LaysM.n143 Try.prog Sh.laysM143_ren := {
  mixed := by kernel_rfl
  f143 := Try.func39.trans (congrArg some (by kernel_rfl))
  f217 := Try.func37.trans (congrArg some (by kernel_rfl))
  f219 := Try.func41.trans (congrArg some (by kernel_rfl))
  f224 := Try.func43.trans (congrArg some (by kernel_rfl))
  f225 := Try.func42.trans (congrArg some (by kernel_rfl))
  f266 := Try.func40.trans (congrArg some (by kernel_rfl))
  f267 := Try.func44.trans (congrArg some (by kernel_rfl))
  f314 := Try.func45.trans (congrArg some (by kernel_rfl))
  t3 := Try.underlying3
  a3 := Try.isAgg3
  z3 := Try.sizeOf3
  v3 := Try.zeroValue3
  t4 := Try.underlying4
  a4 := Try.isAgg4
  z4 := Try.sizeOf4
  v4 := Try.zeroValue4
  t5 := Try.underlying5
  a5 := Try.isAgg5
  z5 := Try.sizeOf5
  v5 := Try.zeroValue5
  t9 := Try.underlying9
  a9 := Try.isAgg9
  z9 := Try.sizeOf9
  v9 := Try.zeroValue9
  t46 := Try.underlying50
  a46 := Try.isAgg50
  z46 := Try.sizeOf50
  v46 := Try.zeroValue50
  t51 := Try.underlying51
  a51 := Try.isAgg51
  z51 := Try.sizeOf51
  v51 := Try.zeroValue51
  t146 := Try.underlying52
  a146 := Try.isAgg52
  z146 := Try.sizeOf52
  v146 := Try.zeroValue52
  g1 := by kernel_rfl
  i3 := by kernel_rfl
  i4 := by kernel_rfl
  i5 := by kernel_rfl
  i9 := by kernel_rfl
  i46 := by kernel_rfl
  i51 := by kernel_rfl
  i146 := by kernel_rfl
  m1 := by kernel_rfl
  s1_3 := fun w h => Go.Proofs.cell_of_shapedOpen_int (zero := #[.int .i64 0]) (t := 3) h (of_decide_eq_true (by kernel_rfl)) (by kernel_rfl) rfl (by kernel_rfl) (by kernel_rfl) Try.underlying3 }
open Go.RowKit Go.Lib in
theorem Sh.maxLen_cell (w : World) (h : w.ShapedOpen Try.prog) : ∃ m, w.cell? ⟨0, 0, none⟩ = some (.int .i64 m) := Sh.laysM143.s1_3 w h
end Go.Proofs.Qxb6000792a
