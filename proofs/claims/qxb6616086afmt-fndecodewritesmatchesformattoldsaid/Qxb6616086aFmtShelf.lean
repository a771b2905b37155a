/-
  DERIVED: THE SHELF's CONTRACTS AT THIS DUMP, IN PLAIN WORDS (tools/lay-plain.mjs out of 'TryfShelf.lean', which tools/lay-shelf.mjs wrote): THE SAME DECLARATIONS UNDER THE SAME NAMES: 'import', 'namespace', 'open', 'def', 'theorem' AND NOTHING ELSE: no command of the shelf's: FOR A HAND-IN. Each laying: the table of numbers ('.._ren') and one theorem, a field a fact of the dump's own or the kernel's comparison; each contract: ONE APPLICATION.
-/
import Derived.Ground.MnProg
import Derived.Shelf.Bin.Uvarint
import Derived.Shelf.Bin.UvarintEmpty
import Derived.Ground.SlbCloneProg
import Derived.Shelf.Bytes.SlClone
import Derived.Test.Qxb6616086aFmtProg
namespace Go.Proofs
open Go.Shelf
def Tryf.laysBin45_ren : Go.Shelf.Ren := ⟨fun | 45 => 29 | n => n, fun | 22 => 22 | 33 => 47 | 3 => 3 | 45 => 61 | 0 => 0 | 5 => 5 | 4 => 4 | n => n, fun | n => n⟩
theorem Tryf.laysBin45 : Go.Proofs.LaysBin.n45 Tryf.prog Tryf.laysBin45_ren := {
  mixed := by kernel_rfl
  f45 := Tryf.func29.trans (congrArg some (by kernel_rfl))
  t0 := Tryf.underlying0
  a0 := Tryf.isAgg0
  z0 := Tryf.sizeOf0
  v0 := Tryf.zeroValue0
  i0 := by kernel_rfl
  t3 := Tryf.underlying3
  a3 := Tryf.isAgg3
  z3 := Tryf.sizeOf3
  v3 := Tryf.zeroValue3
  i3 := by kernel_rfl
  t4 := Tryf.underlying4
  a4 := Tryf.isAgg4
  z4 := Tryf.sizeOf4
  v4 := Tryf.zeroValue4
  i4 := by kernel_rfl
  t5 := Tryf.underlying5
  a5 := Tryf.isAgg5
  z5 := Tryf.sizeOf5
  v5 := Tryf.zeroValue5
  i5 := by kernel_rfl
  t22 := Tryf.underlying22
  a22 := Tryf.isAgg22
  z22 := Tryf.sizeOf22
  v22 := Tryf.zeroValue22
  i22 := by kernel_rfl
  t33 := Tryf.underlying47
  a33 := Tryf.isAgg47
  z33 := Tryf.sizeOf47
  v33 := Tryf.zeroValue47
  i33 := by kernel_rfl
  t45 := Tryf.underlying61
  a45 := Tryf.isAgg61
  z45 := Tryf.sizeOf61
  v45 := Tryf.zeroValue61
  i45 := by kernel_rfl }
open Go.RowKit in
/-- binary.Uvarint: "Uvarint decodes a uint64 from buf and returns that value and the number of bytes read (> 0). If an error occurred, the value is 0 and the number of bytes n is <= 0 meaning: n == 0: buf too small; n < 0: value larger than 64 bits (overflow) and -n is the number of bytes read.": 'Lib.uvarintDec' OF buf's BYTES, both results. The world is as it was. (LAID: no walk: one application.) -/
theorem Tryf.binary_Uvarint (g o n c : Nat) (l : List UInt8) (w : World) (hl : l.length = n) (hcell : ∀ j (hj : j < l.length), w.cell? ⟨g, o + j, none⟩ = some (.int .u8 (l[j]).toNat)) :
    Calls Tryf.prog 29 #[.slice (some ⟨g, o, none⟩) n c] w fun e w' => e = .returned (.tuple #[.int .u64 (Lib.uvarintDec l).1, .int .i64 (Lib.uvarintDec l).2]) ∧ w' = w := Any.binary_Uvarint Tryf.laysBin45 g o n c l w hl hcell
open Go.RowKit in
/-- binary.Uvarint AT A SLICE WITHOUT ELEMENTS, nil too: (0, 0): "buf too small": 'Lib.uvarintDec []'. The world is as it was. (LAID: no walk: one application.) -/
theorem Tryf.binary_Uvarint_empty (ao : Option Addr) (c : Nat) (w : World) :
    Calls Tryf.prog 29 #[.slice ao 0 c] w fun e w' => e = .returned (.tuple #[.int .u64 (Lib.uvarintDec []).1, .int .i64 (Lib.uvarintDec []).2]) ∧ w' = w := Any.binary_Uvarint_empty Tryf.laysBin45 ao c w
def Tryf.laysSlK4_ren : Go.Shelf.Ren := ⟨fun | 4 => 23 | n => n, fun | 22 => 22 | 4 => 4 | 5 => 5 | n => n, fun | n => n⟩
theorem Tryf.laysSlK4 : Go.Proofs.SlLaysK.n4 Tryf.prog Tryf.laysSlK4_ren := {
  mixed := by kernel_rfl
  f4 := Tryf.func23.trans (congrArg some (by kernel_rfl))
  t4 := Tryf.underlying4
  a4 := Tryf.isAgg4
  z4 := Tryf.sizeOf4
  v4 := Tryf.zeroValue4
  t22 := Tryf.underlying22
  a22 := Tryf.isAgg22
  z22 := Tryf.sizeOf22
  v22 := Tryf.zeroValue22
  t5 := Tryf.underlying5
  i5 := by kernel_rfl }
open Go.RowKit Go.Lib in
/-- bytes.Clone: "Clone returns a copy of b[:len(b)]. The result may have additional unused capacity.": OF A SLICE THAT IS NOT nil IT RETURNS A SLICE THAT IS NOT nil, OF THE SAME BYTES, IN MEMORY OF THE CALL's OWN: in the how-to's words (6f): 'w'.ownsRow B e 1 v' n cells' · 'Below B w w'', B the heap's size at the call. b AT WHATEVER ADDRESS, its cells as 'open_ints' hands them ('a.add i'; the numbers 'xs'). No byte: no cell is asked for. (LAID: no walk: one application.) -/
theorem Tryf.bytes_Clone_at (a : Addr) (n c : Nat) (xs : List Int) (w : World) (hx : xs.length = n) (hbig : n ≤ 140737488355328) (hc : ∀ i, i < n → w.cell? (a.add i) = some (.int .u8 (xs.getD i 0))) :
    Calls Tryf.prog 23 #[.slice (some a) n c] w fun e w' => ∃ v', e = .returned v' ∧ w'.ownsRow w.heap.size 5 1 v' n (xs.map (Value.int .u8)) ∧ v' ≠ .slice none 0 0 ∧ Below w.heap.size w w' := Any.bytes_Clone_at Tryf.laysSlK4 a n c xs w hx hbig hc
open Go.RowKit Go.Lib in
/-- "Clone(nil) returns nil.": the world is as it was. (LAID: no walk: one application.) -/
theorem Tryf.bytes_Clone_nil (n c : Nat) (w : World) :
    Calls Tryf.prog 23 #[.slice none n c] w fun e w' => e = .returned (.slice none 0 0) ∧ w' = w := Any.bytes_Clone_nil Tryf.laysSlK4 n c w
end Go.Proofs
