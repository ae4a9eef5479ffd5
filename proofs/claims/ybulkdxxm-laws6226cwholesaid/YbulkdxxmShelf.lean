/-
  DERIVED: THE SHELF's CONTRACTS AT THIS DUMP, IN PLAIN WORDS (tools/lay-plain.mjs out of 'YbaShelf.lean', which tools/lay-shelf.mjs wrote): THE SAME DECLARATIONS UNDER THE SAME NAMES: 'import', 'namespace', 'open', 'def', 'theorem' AND NOTHING ELSE: no command of the shelf's: FOR A HAND-IN. Each laying: the table of numbers ('.._ren') and one theorem, a field a fact of the dump's own or the kernel's comparison; each contract: ONE APPLICATION.
-/
import Derived.Shelf.Small.Bits
import Derived.Shelf.Strconv.Itoa0
import Derived.Ground.SlgnProg
import Derived.Shelf.SlicesE.Clone
import Derived.Test.YbulkdxxmProg
namespace Go.Proofs
open Go.Shelf
def Yba.lays128_ren : Go.Shelf.Ren := ⟨fun | 128 => 28 | n => n, fun | 51 => 43 | 3 => 3 | 4 => 4 | 46 => 61 | 5 => 5 | 9 => 9 | n => n, fun | n => n⟩
theorem Yba.lays128 : Go.Proofs.Lays.n128 Yba.prog Yba.lays128_ren := {
  mixed := by kernel_rfl
  f128 := Yba.func28.trans (congrArg some (by kernel_rfl))
  t3 := Yba.underlying3
  a3 := Yba.isAgg3
  z3 := Yba.sizeOf3
  v3 := Yba.zeroValue3
  t4 := Yba.underlying4
  a4 := Yba.isAgg4
  z4 := Yba.sizeOf4
  v4 := Yba.zeroValue4
  t5 := Yba.underlying5
  a5 := Yba.isAgg5
  z5 := Yba.sizeOf5
  v5 := Yba.zeroValue5
  t9 := Yba.underlying9
  a9 := Yba.isAgg9
  z9 := Yba.sizeOf9
  v9 := Yba.zeroValue9
  t46 := Yba.underlying61
  a46 := Yba.isAgg61
  z46 := Yba.sizeOf61
  v46 := Yba.zeroValue61
  t51 := Yba.underlying43
  a51 := Yba.isAgg43
  z51 := Yba.sizeOf43
  v51 := Yba.zeroValue43 }
/-- bits.Len32: "Len32 returns the minimum number of bits required to represent x; the result is 0 for x == 0.": IT RETURNS 'Lib.bitLen x'; the world is as it was. ('h0', 'h1': x is a uint32.) (LAID: no walk: one application.) -/
theorem Yba.bits_Len32 (x : Int) (w : World) (h0 : 0 ≤ x) (h1 : x ≤ 4294967295) :
    Calls Yba.prog 28 #[.int .u32 x] w fun e w' => e = .returned (.int .i64 (Lib.bitLen x.toNat)) ∧ w' = w := Any.bits_Len32 Yba.lays128 x w h0 h1
def Yba.lays125_ren : Go.Shelf.Ren := ⟨fun | 125 => 15 | 128 => 28 | 129 => 29 | n => n, fun | 46 => 61 | 3 => 3 | 51 => 43 | 53 => 24 | 4 => 4 | 5 => 5 | 9 => 9 | n => n, fun | n => n⟩
theorem Yba.lays125 : Go.Proofs.Lays.n125 Yba.prog Yba.lays125_ren := {
  mixed := by kernel_rfl
  f125 := Yba.func15.trans (congrArg some (by kernel_rfl))
  f128 := Yba.func28.trans (congrArg some (by kernel_rfl))
  f129 := Yba.func29.trans (congrArg some (by kernel_rfl))
  t3 := Yba.underlying3
  a3 := Yba.isAgg3
  z3 := Yba.sizeOf3
  v3 := Yba.zeroValue3
  t4 := Yba.underlying4
  a4 := Yba.isAgg4
  z4 := Yba.sizeOf4
  v4 := Yba.zeroValue4
  t5 := Yba.underlying5
  a5 := Yba.isAgg5
  z5 := Yba.sizeOf5
  v5 := Yba.zeroValue5
  t9 := Yba.underlying9
  a9 := Yba.isAgg9
  z9 := Yba.sizeOf9
  v9 := Yba.zeroValue9
  t46 := Yba.underlying61
  a46 := Yba.isAgg61
  z46 := Yba.sizeOf61
  v46 := Yba.zeroValue61
  t51 := Yba.underlying43
  a51 := Yba.isAgg43
  z51 := Yba.sizeOf43
  v51 := Yba.zeroValue43
  t53 := Yba.underlying24
  a53 := Yba.isAgg24
  z53 := Yba.sizeOf24
  v53 := Yba.zeroValue24 }
/-- bits.Len: "Len returns the minimum number of bits required to represent x; the result is 0 for x == 0.": IT RETURNS 'Lib.bitLen x'; the world is as it was. (A uint has 64 bits in the model.) ITS CALLEE bits.Len64 IS MET BY ITS OWN CONTRACT OFF THE SHELF (lay that first). (LAID: no walk: one application.) -/
theorem Yba.bits_Len (x : Int) (w : World) (h0 : 0 ≤ x) (h1 : x ≤ 18446744073709551615) :
    Calls Yba.prog 15 #[.int .u64 x] w fun e w' => e = .returned (.int .i64 (Lib.bitLen x.toNat)) ∧ w' = w := Any.bits_Len Yba.lays125 x w h0 h1
def Yba.lays129_ren : Go.Shelf.Ren := ⟨fun | 129 => 29 | n => n, fun | 53 => 24 | 3 => 3 | 4 => 4 | 46 => 61 | 5 => 5 | 9 => 9 | n => n, fun | n => n⟩
theorem Yba.lays129 : Go.Proofs.Lays.n129 Yba.prog Yba.lays129_ren := {
  mixed := by kernel_rfl
  f129 := Yba.func29.trans (congrArg some (by kernel_rfl))
  t3 := Yba.underlying3
  a3 := Yba.isAgg3
  z3 := Yba.sizeOf3
  v3 := Yba.zeroValue3
  t4 := Yba.underlying4
  a4 := Yba.isAgg4
  z4 := Yba.sizeOf4
  v4 := Yba.zeroValue4
  t5 := Yba.underlying5
  a5 := Yba.isAgg5
  z5 := Yba.sizeOf5
  v5 := Yba.zeroValue5
  t9 := Yba.underlying9
  a9 := Yba.isAgg9
  z9 := Yba.sizeOf9
  v9 := Yba.zeroValue9
  t46 := Yba.underlying61
  a46 := Yba.isAgg61
  z46 := Yba.sizeOf61
  v46 := Yba.zeroValue61
  t53 := Yba.underlying24
  a53 := Yba.isAgg24
  z53 := Yba.sizeOf24
  v53 := Yba.zeroValue24 }
/-- bits.Len64: "Len64 returns the minimum number of bits required to represent x; the result is 0 for x == 0.": IT RETURNS 'Lib.bitLen x'; the world is as it was. ('h0', 'h1': x is a uint64.) (LAID: no walk: one application.) -/
theorem Yba.bits_Len64 (x : Int) (w : World) (h0 : 0 ≤ x) (h1 : x ≤ 18446744073709551615) :
    Calls Yba.prog 29 #[.int .u64 x] w fun e w' => e = .returned (.int .i64 (Lib.bitLen x.toNat)) ∧ w' = w := Any.bits_Len64 Yba.lays129 x w h0 h1
def Yba.laysSlE041_f8_ren : Go.Shelf.Ren := ⟨fun | 41 => 8 | n => n, fun | 22 => 38 | 23 => 24 | 4 => 4 | n => n, fun | n => n⟩
theorem Yba.laysSlE041_f8 : Go.Proofs.SlLaysE0.n41 Yba.prog Yba.laysSlE041_f8_ren := {
  mixed := by kernel_rfl
  f41 := ⟨Yba.f8.name, by decide, Yba.func8.trans (congrArg some (by kernel_rfl))⟩
  t4 := Yba.underlying4
  a4 := Yba.isAgg4
  z4 := Yba.sizeOf4
  v4 := Yba.zeroValue4
  t22 := Yba.underlying38
  a22 := Yba.isAgg38
  z22 := Yba.sizeOf38
  v22 := Yba.zeroValue38 }
open Go.RowKit Go.Lib in
/-- slices.Clone: "Clone returns a copy of the slice. The elements are copied using assignment, so this is a shallow clone. The result may have additional unused capacity. The result preserves the nilness of s.": OF A SLICE THAT IS NOT nil IT RETURNS A SLICE THAT IS NOT nil, OF THE SAME CELLS, IN MEMORY OF THE CALL's OWN ('ownsRow': the how-to's 6f); below the heap's size at the call all is as it was. (LAID AT THE INSTANCE 'slices.Clone[[]uint64,uint64]': no walk: one application.) -/
theorem Yba.slices_Clone (i0 : TypeInfo) (z : Value) (size bytes : Nat) (hi : Yba.prog.info? 24 = some i0) (hz0 : i0.zero = some z) (hz1 : i0.size = size) (hz2 : i0.bytes = bytes) (hzs : z.cells.size = size) (hsz : 0 < size) (z23 : ∀ w, (Go.sizeOf 24).run Yba.prog w = .ok size w) (b off n c : Nat) (news : List Value) (w : World) (hl : news.length = n * size) (hn : n ≤ maxLen) (hbig : n * bytes ≤ 140737488355328) (hc : ∀ j u, news[j]? = some u → w.cell? ⟨b, off + j, none⟩ = some u) (h1 : ∀ u ∈ news, u.oneCell' = true) :
    Calls Yba.prog 8 #[.slice (some ⟨b, off, none⟩) n c] w fun e w' => ∃ v', e = .returned v' ∧ w'.ownsRow w.heap.size 24 size v' n news ∧ v' ≠ .slice none 0 0 ∧ Below w.heap.size w w' := AnyE.slices_Clone Yba.laysSlE041_f8 i0 z size bytes hi hz0 hz1 hz2 hzs hsz z23 b off n c news w hl hn hbig hc h1
open Go.RowKit Go.Lib in
/-- The same at nil: nil comes back; the world is as it was; nothing is asked of the element's type. (LAID AT THE INSTANCE 'slices.Clone[[]uint64,uint64]': no walk: one application.) -/
theorem Yba.slices_Clone_nil (n c : Nat) (w : World) :
    Calls Yba.prog 8 #[.slice none n c] w fun e w' => e = .returned (.slice none 0 0) ∧ w' = w := AnyE.slices_Clone_nil Yba.laysSlE041_f8 n c w
end Go.Proofs
