import Derived.Shelf.Lay
import Derived.Ground.MnProg
import Derived.Shelf.Bin.AppendUvarintArg
import Derived.Shelf.Bin.Uvarint
import Derived.Test.YbulkaweyProg
namespace Go.Proofs
open Go.Shelf
shelf_lay LaysBin.n47 Mn 47 at Yba as Yba.laysBin47
open Go.RowKit in
/-- binary.AppendUvarint onto a slice that came in, laid at this program. -/
theorem Yba.appendUvarint_onto (W0 : World) (ao : Option Addr) (b off len cap : Nat) (olds : List Value) (hc : Came W0 1 ao b off len cap olds) (x : Nat) (hx : x < 18446744073709551616) (sv : Value) (m : Nat) (ks : List Value) (w : World) (honto : Onto W0 5 1 ao b off len cap olds w sv m ks) (hlim : len + m + 10 ≤ 140737488355328) :
    Calls Yba.prog 21 #[sv, .int .u64 x] w fun e w' => ∃ v', e = .returned v' ∧ Onto W0 5 1 ao b off len cap olds w' v' (m + (Lib.uvarint x).length) (ks ++ Lib.byteCells (Lib.uvarint x)) :=
  Any.binary_AppendUvarint_arg Yba.laysBin47 W0 ao b off len cap olds hc x hx sv m ks w honto hlim
shelf_lay LaysBin.n45 Mn 45 at Yba as Yba.laysBin45
open Go.RowKit in
/-- binary.Uvarint, laid at this program. -/
theorem Yba.uvarint_read (g o n c : Nat) (l : List UInt8) (w : World) (hl : l.length = n) (hcell : ∀ j (hj : j < l.length), w.cell? ⟨g, o + j, none⟩ = some (.int .u8 (l[j]).toNat)) :
    Calls Yba.prog 20 #[.slice (some ⟨g, o, none⟩) n c] w fun e w' => e = .returned (.tuple #[.int .u64 (Lib.uvarintDec l).1, .int .i64 (Lib.uvarintDec l).2]) ∧ w' = w := Any.binary_Uvarint Yba.laysBin45 g o n c l w hl hcell
end Go.Proofs
