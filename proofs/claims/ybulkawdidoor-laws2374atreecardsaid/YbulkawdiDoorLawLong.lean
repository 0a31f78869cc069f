import Derived.Test.YbulkawdiDoorCore
namespace Go.Proofs.YbulkawdiDoor
open Go.RowKit
set_option maxRecDepth 100000 in
/-- More than 1024 items: true at once. -/
theorem law_long (a : Option Addr) (n cap : Nat) (md : Int) (w : World) (hn : 1024 < n) (hm : n ≤ maxLen) :
    Calls Ybad.prog 3 #[.slice a n cap, .int .u8 md] w fun e w' => e = .returned (.bool true) ∧ Below w.heap.size w w' := by
  unfold maxLen at hm
  have hn' : (1024 : Int) < n := by omega
  go_enter Ybad.func3, Ybad.ntmps3
  go_wp2_with fail
  go_ret
  exact ⟨rfl, Below.refl _ _⟩
end Go.Proofs.YbulkawdiDoor
