/-
  The contract of slices.Delete at []int, laid at this program out of the library's contract: the table of numbers, one theorem a field a fact, one application.
-/
import Derived.Ground.Names2Prog
import Derived.Shelf.Slices.Delete
import Derived.Shelf.Slices.Cells
import Derived.Test.Qxb6002619aFmtRows
namespace Go.Proofs
open Go.Shelf
def Tryf.laysNm223_ren : Go.Shelf.Ren := ⟨fun | 23 => 19 | n => n, fun | 22 => 26 | 3 => 3 | 4 => 4 | 0 => 0 | n => n, fun | n => n⟩
theorem Tryf.laysNm223 : Go.Proofs.Lays2.n23 Tryf.prog Tryf.laysNm223_ren := {
  mixed := by kernel_rfl
  f23 := Tryf.func19.trans (congrArg some (by kernel_rfl))
  t0 := Tryf.underlying0
  a0 := Tryf.isAgg0
  z0 := Tryf.sizeOf0
  v0 := Tryf.zeroValue0
  t3 := Tryf.underlying3
  a3 := Tryf.isAgg3
  z3 := Tryf.sizeOf3
  v3 := Tryf.zeroValue3
  t4 := Tryf.underlying4
  a4 := Tryf.isAgg4
  z4 := Tryf.sizeOf4
  v4 := Tryf.zeroValue4
  t22 := Tryf.underlying26
  a22 := Tryf.isAgg26
  z22 := Tryf.sizeOf26
  v22 := Tryf.zeroValue26
  i3 := by kernel_rfl }
open Go.RowKit Go.Lib Go.Sort in
/-- slices.Delete at []int, of an argument, for i ≤ j ≤ n: the slice cut to n - (j - i) elements; the n cells hold what stood ahead of i, what stood from j on, then zeros. (LAID: no walk: one application.) -/
theorem Tryf.slices_Delete_int_cells (b off n c i j : Nat) (zs : List Int) (w : World) (hz : n ≤ zs.length) (hcap : n ≤ c) (hm : c ≤ 9223372036854775807) (hij : i ≤ j) (hj : j ≤ n) (hc : ∀ j, j < zs.length → w.cell? ⟨b, off + j, none⟩ = some (.int .i64 (zs.getD j 0))) (hf : ∀ j, j < n → w.frozen? ⟨b, off + j, none⟩ = false) :
    Calls Tryf.prog 19 #[.slice (some ⟨b, off, none⟩) n c, .int .i64 i, .int .i64 j] w fun e w' => e = .returned (.slice (some ⟨b, off, none⟩) (n - (j - i)) c) ∧ ∃ q, w' = (w.drewN q).setCells b off (((zs.take n).take i ++ (zs.take n).drop j ++ List.replicate (j - i) 0).map (Value.int .i64)) := Any.slices_Delete_int_cells Tryf.laysNm223 b off n c i j zs w hz hcap hm hij hj hc hf
end Go.Proofs
