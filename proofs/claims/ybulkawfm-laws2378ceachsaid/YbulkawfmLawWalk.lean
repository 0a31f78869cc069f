import Derived.Test.YbulkawfmWalks
namespace Go.Proofs.Ybulkawfm
open Go.RowKit

/-- More rows than 1024: the law answers true at once. -/
theorem law_long (a : Option Addr) (n cap : Nat) (w : World) (hn : 1024 < n) (hm : n ≤ maxLen) :
    Calls Yba.prog 3 #[.slice a n cap] w fun e w' => e = .returned (.bool true) ∧ Below w.heap.size w w' := by
  unfold maxLen at hm
  have hn' : (1024 : Int) < n := by omega
  go_enter Yba.func3, Yba.ntmps3
  go_wp2
  go_ret
  exact ⟨rfl, Below.refl _ _⟩

theorem assert30 (x : Value) (w : World) : (Instr.typeAssert (.iface 30 x) 20 30 true).run Yba.prog w = .ok (.tuple #[x, .bool true]) w := by kernel_rfl

theorem items_alloc {B n k : Nat} {c : Cols} {w wr : World} (h : Items B n k c w wr) (o : Obj) : Items B n k c w (wr.alloc o) := by
  obtain ⟨D, hD, hsz, hid, hbl⟩ := h
  have hlt := (Array.getElem?_eq_some_iff.1 hD).1
  exact ⟨D, by rw [Go.heap_alloc_old _ _ hlt, hD], hsz, hid, hbl.alloc (by omega) _⟩

set_option maxHeartbeats 2000000 in
/-- The law behind the build. -/
theorem law_body (av : Option Addr) (n cap : Nat) (c : Cols) (w : World) (hn : n ≤ 1024) (hrows : ∀ a, av = some a → RowsAt c n a w) (hnil : av = none → n = 0)
    (hbuild : Calls Yba.prog 5 #[.slice av n cap] w fun e w' => ∃ g, e = .returned (.pointer (some ⟨g, 0, none⟩)) ∧ Roster c n g w' ∧ Below w.heap.size w w') :
    Calls Yba.prog 3 #[.slice av n cap] w fun e w' => e = .returned (.bool true) ∧ Below w.heap.size w w' := by
  have hsn := Lib.run_eql_slice_nil (P := Yba.prog)
  have hta := assert30
  have hn' : ¬ (1024 : Int) < n := by omega
  have HR : Hid (∀ a, av = some a → RowsAt c n a w) := hrows
  have HN : Hid (av = none → n = 0) := hnil
  clear hrows hnil
  have HBd : Hid _ := hbuild
  clear hbuild
  go_enter Yba.func3, Yba.ntmps3
  go_wp2_with fail
  refine Calls.mono HBd.out ?_
  rintro e w1 ⟨g, rfl, hro, hb1⟩
  clear HBd
  have HRo : Hid (Roster c n g w1) := hro
  have HB1 : Hid (Below w.heap.size w w1) := hb1
  clear hro hb1
  go_wp2_with fail
  refine (stake_any g n c w1 hn HRo.out).mono ?_
  rintro e w2 ⟨rfl, hit⟩
  have HI : Hid (Items w1.heap.size n n c w1 w2) := hit
  clear hit HRo
  have e1 : ((n : Int) != n) = false := by simp
  go_wp2
  go_loopw [5] (fun i wr => ∃ k : Nat, k ≤ n ∧ i = .int .i64 k ∧ Items w1.heap.size n n c w1 wr) (fun i _ => n - (intOf i).toNat)
  case atStart => exact ⟨0, Nat.zero_le _, rfl, HI.out⟩
  case round =>
    clear HI
    obtain ⟨k, hk, rfl, D, hD, hsz, hid, hbl⟩ := hrel
    have HIt : Hid (Items w1.heap.size n n c w1 wr) := ⟨D, hD, hsz, hid, hbl⟩
    by_cases hlt : k < n
    · have hav : ∃ a, av = some a := by
        rcases av with _ | a
        · have := HN.out rfl; omega
        · exact ⟨a, rfl⟩
      obtain ⟨a, rfl⟩ := hav
      obtain ⟨b, off, rfl, hb, hcs⟩ := HR.out a rfl (by omega)
      have hb1 := HB1.out
      have c0 : wr.cell? ⟨b, off + k * 4, none⟩ = some (.string (c.I k)) :=
        (hbl.cell (show b < w1.heap.size from Nat.lt_of_lt_of_le hb hb1.size)).trans ((hb1.cell (by exact hb)).trans (hcs k hlt).1)
      have c0' : ∀ o, (wr.alloc o).cell? ⟨b, off + k * 4, none⟩ = some (.string (c.I k)) := fun o => by
        rw [World.cell?_alloc_lt _ _ _ (show b < wr.heap.size from Nat.lt_of_lt_of_le hb (Nat.le_trans hb1.size hbl.size)), c0]
      have d0 : wr.cell? ⟨w1.heap.size, k, none⟩ = some (item (c.I k)) := (cell_of_row wr _ k D _ _ hD).trans (hid k hlt)
      unfold item at d0
      have hlt' : (k : Int) < n := by omega
      clear hb1 hcs hD hsz hid hbl HR HN HB1
      go_wp2
      go_roundw
      case rel => exact ⟨k + 1, by omega, by go_num, items_alloc HIt.out _⟩
      case measure => simp [intOf]; omega
    · clear hD hsz hid hbl HR HN
      go_wp2
      go_ret
      obtain ⟨_, _, _, _, hbl⟩ := HIt.out
      exact ⟨rfl, HB1.out.trans (hbl.mono HB1.out.size)⟩
end Go.Proofs.Ybulkawfm
