/-
  DERIVED: THE SHELF's CONTRACTS AT THIS DUMP, IN PLAIN WORDS (tools/lay-plain.mjs out of 'TryShelf.lean', which tools/lay-shelf.mjs wrote): THE SAME DECLARATIONS UNDER THE SAME NAMES: 'import', 'namespace', 'open', 'def', 'theorem' AND NOTHING ELSE: no command of the shelf's: FOR A HAND-IN. Each laying: the table of numbers ('.._ren') and one theorem, a field a fact of the dump's own or the kernel's comparison; each contract: ONE APPLICATION.
-/
import Derived.Shelf.Slices.SearchI
import Derived.Shelf.Slices.Empties
import Derived.Shelf.Spec.SlicesInsertGrow
import Derived.Test.Qxb6612169aProg
namespace Go.Proofs
open Go.Shelf
def Try.laysNm225_ren : Go.Shelf.Ren := ⟨fun | 25 => 23 | 31 => 28 | 32 => 29 | 37 => 35 | n => n, fun | 22 => 23 | 3 => 3 | 4 => 4 | 40 => 62 | 0 => 0 | n => n, fun | n => n⟩
theorem Try.laysNm225 : Go.Proofs.Lays2.n25 Try.prog Try.laysNm225_ren := {
  mixed := by kernel_rfl
  f25 := Try.func23.trans (congrArg some (by kernel_rfl))
  f31 := Try.func28.trans (congrArg some (by kernel_rfl))
  f32 := Try.func29.trans (congrArg some (by kernel_rfl))
  f37 := Try.func35.trans (congrArg some (by kernel_rfl))
  t0 := Try.underlying0
  a0 := Try.isAgg0
  z0 := Try.sizeOf0
  v0 := Try.zeroValue0
  t3 := Try.underlying3
  a3 := Try.isAgg3
  z3 := Try.sizeOf3
  v3 := Try.zeroValue3
  t4 := Try.underlying4
  a4 := Try.isAgg4
  z4 := Try.sizeOf4
  v4 := Try.zeroValue4
  t22 := Try.underlying23
  a22 := Try.isAgg23
  z22 := Try.sizeOf23
  v22 := Try.zeroValue23
  t40 := Try.underlying62
  a40 := Try.isAgg62
  z40 := Try.sizeOf62
  v40 := Try.zeroValue62 }
open Go.RowKit Go.Lib in
/-- slices.BinarySearch at []int: "BinarySearch searches for target in a sorted slice and returns the earliest position where target is found, or the position where target would appear in the sort order; it also returns a bool saying whether the target is really found in the slice. The slice must be sorted in increasing order.": OF A SORTED SLICE IT RETURNS how many elements are less than the target, and whether the target is among the elements; the world is as it was but for the count of draws. 'zs': what the cells behind the slice's address hold; 'zs.take n': its elements. (Of a slice that is not sorted: no contract here.) (LAID: no walk: one application.) -/
theorem Try.slices_BinarySearch_int (b off n c : Nat) (zs : List Int) (x : Int) (w : World) (hz : n ≤ zs.length) (hbig : n < 4611686018427387904) (hc : ∀ j, j < zs.length → w.cell? ⟨b, off + j, none⟩ = some (.int .i64 (zs.getD j 0))) (hs : (zs.take n).Pairwise (· ≤ ·)) :
    Calls Try.prog 23 #[.slice (some ⟨b, off, none⟩) n c, .int .i64 x] w fun e w' => e = .returned (.tuple #[.int .i64 ((zs.take n).countP (· < x) : Nat), .bool ((zs.take n).contains x)]) ∧ ∃ q, w' = w.drewN q := Any.slices_BinarySearch_int Try.laysNm225 b off n c zs x w hz hbig hc hs
open Go.RowKit Go.Lib in
/-- slices.BinarySearch at []int of no element: position 0, not found; the world is as it was. (LAID: no walk: one application.) -/
theorem Try.slices_BinarySearch_int_empty (a : Option Addr) (c : Nat) (x : Int) (w : World) :
    Calls Try.prog 23 #[.slice a 0 c, .int .i64 x] w fun e w' => e = .returned (.tuple #[.int .i64 0, .bool false]) ∧ w' = w := Any.slices_BinarySearch_int_empty Try.laysNm225 a c x w
def Try.laysNm221_ren : Go.Shelf.Ren := ⟨fun | 21 => 24 | 27 => 30 | 28 => 31 | 35 => 36 | 39 => 39 | n => n, fun | 22 => 23 | 3 => 3 | 4 => 4 | 0 => 0 | n => n, fun | n => n⟩
theorem Try.laysNm221 : Go.Proofs.Lays2.n21 Try.prog Try.laysNm221_ren := {
  mixed := by kernel_rfl
  f21 := Try.func24.trans (congrArg some (by kernel_rfl))
  f27 := Try.func30.trans (congrArg some (by kernel_rfl))
  f28 := Try.func31.trans (congrArg some (by kernel_rfl))
  f35 := Try.func36.trans (congrArg some (by kernel_rfl))
  f39 := Try.func39.trans (congrArg some (by kernel_rfl))
  t0 := Try.underlying0
  a0 := Try.isAgg0
  z0 := Try.sizeOf0
  v0 := Try.zeroValue0
  t3 := Try.underlying3
  a3 := Try.isAgg3
  z3 := Try.sizeOf3
  v3 := Try.zeroValue3
  t4 := Try.underlying4
  a4 := Try.isAgg4
  z4 := Try.sizeOf4
  v4 := Try.zeroValue4
  t22 := Try.underlying23
  a22 := Try.isAgg23
  z22 := Try.sizeOf23
  v22 := Try.zeroValue23
  i3 := by kernel_rfl }
open Go.RowKit Go.Lib in
/-- slices.Insert at []int, i < len(s), no room. -/
theorem Try.slices_Insert_int_grow (b off n c i vb voff m vc : Nat) (cs vs : List Value) (w : World) (hi : i < n) (hm : 0 < m) (hnc : n ≤ c) (hroom : c < n + m) (hbig : (n + m) * 8 ≤ 140737488355328) (hcl : cs.length = n) (hvl : vs.length = m) (hcs : ∀ j v, cs[j]? = some v → w.cell? ⟨b, off + j, none⟩ = some v) (hvs : ∀ j v, vs[j]? = some v → w.cell? ⟨vb, voff + j, none⟩ = some v) (h1c : ∀ v ∈ cs, v.oneCell' = true) (h1v : ∀ v ∈ vs, v.oneCell' = true) :
    Calls Try.prog 24 #[.slice (some ⟨b, off, none⟩) n c, .int .i64 i, .slice (some ⟨vb, voff, none⟩) m vc] w fun e w' =>
      e = .returned (.slice (some ⟨w.heap.size, 0, none⟩) (n + m) (grownCap w (n + m) c 3)) ∧
      w' = (((w.alloc (.cells ((cs.take i).toArray ++ Builtin.zeroCells (Value.int .i64 0).cells (n + m - i) ++ Builtin.zeroCells (Value.int .i64 0).cells (grownCap w (n + m) c 3 - (n + m))) 3)).drew.setCells w.heap.size i vs).drew).setCells w.heap.size (i + m) (cs.drop i) := Any2.slices_Insert_int_grow Try.laysNm221 b off n c i vb voff m vc cs vs w hi hm hnc hroom hbig hcl hvl hcs hvs h1c h1v
open Go.RowKit Go.Lib in
/-- slices.Insert at []int, at the end, no room. -/
theorem Try.slices_Insert_int_end_grow (base : Option Addr) (n c vb voff m vc : Nat) (cs vs : List Value) (w : World) (hm : 0 < m) (hnc : n ≤ c) (hroom : c < n + m) (hbig : (n + m) * 8 ≤ 140737488355328) (hcl : cs.length = n) (hvl : vs.length = m) (hnil : base = none → n = 0) (hcs : ∀ a, base = some a → ∀ j v, cs[j]? = some v → w.cell? (a.add j) = some v) (hvs : ∀ j v, vs[j]? = some v → w.cell? ⟨vb, voff + j, none⟩ = some v) (h1v : ∀ v ∈ vs, v.oneCell' = true) :
    Calls Try.prog 24 #[.slice base n c, .int .i64 n, .slice (some ⟨vb, voff, none⟩) m vc] w fun e w' =>
      e = .returned (.slice (some ⟨w.heap.size, 0, none⟩) (n + m) (grownCap w (n + m) c 3)) ∧
      w' = w.drew.alloc (.cells ((cs ++ vs).toArray ++ Builtin.zeroCells (Value.int .i64 0).cells (grownCap w (n + m) c 3 - (n + m))) 3) := Any2.slices_Insert_int_end_grow Try.laysNm221 base n c vb voff m vc cs vs w hm hnc hroom hbig hcl hvl hnil hcs hvs h1v
end Go.Proofs
