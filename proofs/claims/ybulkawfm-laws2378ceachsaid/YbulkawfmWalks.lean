import Derived.Test.YbulkawfmRows
import Derived.WalkKit
import Derived.ProofKit
import Derived.OpenShut
import Derived.RowKit3
import Derived.Laws.Rows
import Derived.BigRegion
import Derived.WalkSpells
namespace Go.Proofs.Ybulkawfm
open Go.RowKit

theorem info39 : (Yba.prog.info? 39).map (fun i => (i.zero, i.size, i.bytes)) = some (some (.agg #[.string ByteArray.empty, .string ByteArray.empty, .bool false, .int .i64 0]), 4, 48) := by kernel_rfl
theorem info20 : (Yba.prog.info? 20).map (fun i => (i.zero, i.size, i.bytes)) = some (some .nilIface, 1, 16) := by kernel_rfl

/-- n zero holders. -/
def zrow (n : Nat) : Array Value := madeCells #[.string ByteArray.empty, .string ByteArray.empty, .bool false, .int .i64 0] (n * 4)
theorem zrow_size (n : Nat) : (zrow n).size = n * 4 := size_madeCells _ _
/-- n nil interfaces. -/
def nrow (n : Nat) : Array Value := madeCells #[.nilIface] n
theorem nrow_size (n : Nat) : (nrow n).size = n := size_madeCells _ _
theorem make35 (n : Nat) (hn : n ≤ 1024) (w : World) : (Instr.makeSlice 35 (.int .i64 n) (.int .i64 n)).run Yba.prog w = .ok (.slice (some ⟨w.heap.size, 0, none⟩) n n) (w.alloc (.cells (zrow n) 39)) := by
  obtain ⟨i0, hi, hz0, hz1, hz2⟩ := info_parts info39
  have := run_make (P := Yba.prog) w 35 39 i0 _ Yba.underlying35 hi hz0 .i64 .i64 n n (by omega) (Int.le_refl _) (by rw [hz2]; omega) (by omega)
  rw [this, hz1]
  simp [zrow, Value.cells]
theorem make25 (n : Nat) (hn : n ≤ 1024) (w : World) : (Instr.makeSlice 25 (.int .i64 n) (.int .i64 n)).run Yba.prog w = .ok (.slice (some ⟨w.heap.size, 0, none⟩) n n) (w.alloc (.cells (nrow n) 20)) := by
  obtain ⟨i0, hi, hz0, hz1, hz2⟩ := info_parts info20
  have := run_make (P := Yba.prog) w 25 20 i0 _ Yba.underlying25 hi hz0 .i64 .i64 n n (by omega) (Int.le_refl _) (by rw [hz2]; omega) (by omega)
  rw [this, hz1]
  simp [nrow, Value.cells]

/-- A drawn row's four columns. -/
structure Cols where
  I : Nat → ByteArray
  T : Nat → ByteArray
  L : Nat → Bool
  S : Nat → Int

/-- The cells of the first k holders. -/
def HoldsTo (c : Cols) (k : Nat) (C : Array Value) : Prop :=
  ∀ j, j < k → C[j * 4]? = some (.string (c.I j)) ∧ C[j * 4 + 1]? = some (.string (c.T j)) ∧ C[j * 4 + 2]? = some (.bool (c.L j)) ∧ C[j * 4 + 3]? = some (.int .i64 (c.S j))

/-- The holders' row after k rounds. -/
def Built (B n k : Nat) (c : Cols) (w wr : World) : Prop :=
  ∃ C : Array Value, wr.heap[B]? = some (.cells C 39 (0, 0)) ∧ C.size = n * 4 ∧ HoldsTo c k C ∧ Below B w wr

theorem row_cell {wr : World} {B : Nat} {C : Array Value} {t : TypeId} (hC : wr.heap[B]? = some (.cells C t (0, 0))) (o : Nat) (ho : o < C.size) :
    ∃ v, wr.cell? ⟨B, o, none⟩ = some v := ⟨C[o], by rw [cell_of_row wr B o C t (0, 0) hC]; simp [ho]⟩

/-- What one round of zzs2378cbuild does to the holders' row. -/
theorem built_step {B n k : Nat} {c : Cols} {w wr : World} (hk : k < n) (h : Built B n k c w wr) :
    Built B n (k + 1) c w ((((wr.setCell ⟨B, k * 4, none⟩ (.string (c.I k))).setCell ⟨B, k * 4 + 1, none⟩ (.string (c.T k))).setCell ⟨B, k * 4 + 2, none⟩ (.bool (c.L k))).setCell ⟨B, k * 4 + 3, none⟩ (.int .i64 (c.S k))).drew := by
  obtain ⟨C, hC, hsz, hid, hbl⟩ := h
  have e1 := heap_setCell_same wr B (k * 4) C 39 (.string (c.I k)) hC
  have e2 := heap_setCell_same _ B (k * 4 + 1) _ 39 (.string (c.T k)) e1
  have e3 := heap_setCell_same _ B (k * 4 + 2) _ 39 (.bool (c.L k)) e2
  have e4 := heap_setCell_same _ B (k * 4 + 3) _ 39 (.int .i64 (c.S k)) e3
  refine ⟨_, e4, by simp [hsz], ?_, ?_⟩
  · intro j hj
    simp only [Array.getElem?_setIfInBounds, Array.size_setIfInBounds]
    by_cases e : j = k
    · subst e
      refine ⟨?_, ?_, ?_, ?_⟩
      · rw [if_neg (by omega), if_neg (by omega), if_neg (by omega), if_pos rfl, if_pos (by omega)]
      · rw [if_neg (by omega), if_neg (by omega), if_pos rfl, if_pos (by omega)]
      · rw [if_neg (by omega), if_pos rfl, if_pos (by omega)]
      · rw [if_pos rfl, if_pos (by omega)]
    · obtain ⟨a0, a1, a2, a3⟩ := hid j (by omega)
      refine ⟨?_, ?_, ?_, ?_⟩ <;> (rw [if_neg (by omega), if_neg (by omega), if_neg (by omega), if_neg (by omega)]; assumption)
  · exact ((((hbl.setCell (Nat.le_refl _) _).setCell (Nat.le_refl _) _).setCell (Nat.le_refl _) _).setCell (Nat.le_refl _) _).drew

/-- A roster whose holders are the n drawn rows lies at block g. -/
def Roster (c : Cols) (n g : Nat) (w : World) : Prop :=
  ∃ ho : Option Addr, w.heap[g]? = some (.cells #[.slice ho n n, .int .i64 0, .map none] 38 (0, 0)) ∧
    (0 < n → ∃ B C, ho = some ⟨B, 0, none⟩ ∧ w.heap[B]? = some (.cells C 39 (0, 0)) ∧ HoldsTo c n C)

/-- The argument's cells. -/
def RowsAt (c : Cols) (n : Nat) (a : Addr) (w : World) : Prop :=
  0 < n → ∃ b off, a = ⟨b, off, none⟩ ∧ b < w.heap.size ∧ ∀ i, i < n → w.cell? ⟨b, off + i * 4, none⟩ = some (.string (c.I i)) ∧ w.cell? ⟨b, off + i * 4 + 1, none⟩ = some (.string (c.T i)) ∧
    w.cell? ⟨b, off + i * 4 + 2, none⟩ = some (.bool (c.L i)) ∧ w.cell? ⟨b, off + i * 4 + 3, none⟩ = some (.int .i64 (c.S i))

set_option maxHeartbeats 1000000 in
/-- zzs2378cbuild at a slice that is not nil. -/
theorem build_some (a : Addr) (n cap : Nat) (c : Cols) (w : World) (hn : n ≤ 1024) (hrows : RowsAt c n a w) :
    Calls Yba.prog 5 #[.slice (some a) n cap] w fun e w' =>
      ∃ g, e = .returned (.pointer (some ⟨g, 0, none⟩)) ∧ Roster c n g w' ∧ Below w.heap.size w w' := by
  have hsn := Lib.run_eql_slice_nil (P := Yba.prog)
  have hmk := make35 n hn
  have HR : Hid (RowsAt c n a w) := hrows
  clear hrows
  go_enter Yba.func5, Yba.ntmps5
  go_wp2
  go_loopw [4] (fun i wr => ∃ k : Nat, k ≤ n ∧ i = .int .i64 k ∧ Built w.heap.size n k c w wr) (fun i _ => n - (intOf i).toNat)
  case atStart => exact ⟨0, Nat.zero_le _, rfl, zrow n, heap_alloc_new _ _, zrow_size n, fun j hj => absurd hj (by omega), (Below.refl _ _).alloc (Nat.le_refl _) _⟩
  case round =>
    obtain ⟨k, hk, rfl, C, hC, hsz, hid, hbl⟩ := hrel
    by_cases hlt : k < n
    · obtain ⟨b, off, rfl, hb, hcs⟩ := HR.out (by omega)
      obtain ⟨h0, h1, h2, h3⟩ := hcs k hlt
      have c0 : wr.cell? ⟨b, off + k * 4, none⟩ = some (.string (c.I k)) := (hbl.cell (by exact hb)).trans h0
      have c1 : wr.cell? ⟨b, off + k * 4 + 1, none⟩ = some (.string (c.T k)) := (hbl.cell (by exact hb)).trans h1
      have c2 : wr.cell? ⟨b, off + k * 4 + 2, none⟩ = some (.bool (c.L k)) := (hbl.cell (by exact hb)).trans h2
      have c3 : wr.cell? ⟨b, off + k * 4 + 3, none⟩ = some (.int .i64 (c.S k)) := (hbl.cell (by exact hb)).trans h3
      have hlt' : (k : Int) < n := by omega
      have HB : Hid (Built w.heap.size n k c w wr) := ⟨C, hC, hsz, hid, hbl⟩
      obtain ⟨o0, d0⟩ := row_cell hC (k * 4) (by omega)
      obtain ⟨o1, d1⟩ := row_cell hC (k * 4 + 1) (by omega)
      obtain ⟨o2, d2⟩ := row_cell hC (k * 4 + 2) (by omega)
      obtain ⟨o3, d3⟩ := row_cell hC (k * 4 + 3) (by omega)
      have f0 := frozen_of_row wr w.heap.size (k * 4) C 39 hC
      have f1 := frozen_of_row wr w.heap.size (k * 4 + 1) C 39 hC
      have f2 := frozen_of_row wr w.heap.size (k * 4 + 2) C 39 hC
      have f3 := frozen_of_row wr w.heap.size (k * 4 + 3) C 39 hC
      clear h0 h1 h2 h3 hC hsz hid hbl hcs HR
      go_wp2
      go_region
      go_wp2
      go_roundw
      case rel => exact ⟨k + 1, by omega, by go_num, built_step hlt HB.out⟩
      case measure => simp [intOf]; omega
    · have HB : Hid (Built w.heap.size n k c w wr) := ⟨C, hC, hsz, hid, hbl⟩
      clear hC hsz hid hbl HR
      go_wp2
      go_ret
      obtain ⟨C, hC, hsz, hid, hbl⟩ := HB.out
      obtain rfl : k = n := by omega
      refine ⟨_, rfl, ⟨_, heap_alloc_new _ _, fun _ => ⟨w.heap.size, C, rfl, ?_, hid⟩⟩, hbl.alloc hbl.size _⟩
      rw [Go.heap_alloc_old wr _ (Array.getElem?_eq_some_iff.1 hC).1, hC]

/-- zzs2378cbuild at nil. -/
theorem build_nil (c : Cols) (w : World) :
    Calls Yba.prog 5 #[.slice none 0 0] w fun e w' =>
      ∃ g, e = .returned (.pointer (some ⟨g, 0, none⟩)) ∧ Roster c 0 g w' ∧ Below w.heap.size w w' := by
  have hsn := Lib.run_eql_slice_nil (P := Yba.prog)
  go_enter Yba.func5, Yba.ntmps5
  go_wp2
  go_ret
  exact ⟨_, rfl, ⟨_, heap_alloc_new _ _, fun h => absurd h (by omega)⟩, (Below.refl _ _).alloc (Nat.le_refl _) _⟩

/-- The item of a holder known by id. -/
def item (id : ByteArray) : Value := .iface 30 (.agg #[.string id, .string ⟨#[83, 84, 65, 75, 69, 72, 79, 76, 68, 69, 82]⟩, .string id, .string ⟨#[73, 78, 68, 73, 86, 73, 68, 85, 65, 76]⟩, .string id])

/-- The items' row after k rounds. -/
def Items (B n k : Nat) (c : Cols) (w wr : World) : Prop :=
  ∃ D : Array Value, wr.heap[B]? = some (.cells D 20 (0, 0)) ∧ D.size = n ∧ (∀ j, j < k → D[j]? = some (item (c.I j))) ∧ Below B w wr

theorem items_step {B n k : Nat} {c : Cols} {w wr : World} (hk : k < n) (h : Items B n k c w wr) (o : Array Value) (t : TypeId) :
    Items B n (k + 1) c w ((wr.setCell ⟨B, k, none⟩ (item (c.I k))).alloc (.cells o t)) := by
  obtain ⟨D, hD, hsz, hid, hbl⟩ := h
  have hlt := (Array.getElem?_eq_some_iff.1 hD).1
  have e1 := heap_setCell_same wr B k D 20 (item (c.I k)) hD
  refine ⟨_, by rw [Go.heap_alloc_old _ _ (by simpa using hlt), e1], by simp [hsz], ?_, ?_⟩
  · intro j hj
    simp only [Array.getElem?_setIfInBounds]
    by_cases e : j = k
    · subst e; rw [if_pos rfl, if_pos (by omega)]
    · rw [if_neg (by omega)]; exact hid j (by omega)
  · exact (hbl.setCell (Nat.le_refl _) _).alloc (by simp; omega) _

set_option maxHeartbeats 1000000 in
/-- stakeholders. -/
theorem stake_any (g n : Nat) (c : Cols) (w : World) (hn : n ≤ 1024) (hr : Roster c n g w) :
    Calls Yba.prog 6 #[.pointer (some ⟨g, 0, none⟩)] w fun e w' =>
      e = .returned (.slice (some ⟨w.heap.size, 0, none⟩) n n) ∧ Items w.heap.size n n c w w' := by
  obtain ⟨ho, hg, hh⟩ := hr
  have hgl := (Array.getElem?_eq_some_iff.1 hg).1
  have g0 : w.cell? ⟨g, 0, none⟩ = some (.slice ho n n) := by rw [cell_of_row w g 0 _ _ _ hg]; rfl
  have g1 : ∀ o, (w.alloc o).cell? ⟨g, 0, none⟩ = some (.slice ho n n) := fun o => by rw [World.cell?_alloc_lt _ _ _ hgl, g0]
  have hmk := make25 n hn
  have HH : Hid (0 < n → ∃ B C, ho = some ⟨B, 0, none⟩ ∧ w.heap[B]? = some (.cells C 39 (0, 0)) ∧ HoldsTo c n C) := hh
  clear hh hg
  go_enter Yba.func6, Yba.ntmps6
  go_wp2
  go_loopw [17] (fun i wr => ∃ k : Nat, k ≤ n ∧ i = .int .i64 k ∧ Items w.heap.size n k c w wr) (fun i _ => n - (intOf i).toNat)
  case atStart => exact ⟨0, Nat.zero_le _, rfl, nrow n, heap_alloc_new _ _, nrow_size n, fun j hj => absurd hj (by omega), (Below.refl _ _).alloc (Nat.le_refl _) _⟩
  case round =>
    obtain ⟨k, hk, rfl, D, hD, hsz, hid, hbl⟩ := hrel
    by_cases hlt : k < n
    · obtain ⟨B, C, rfl, hB, hC⟩ := HH.out (by omega)
      have hBl := (Array.getElem?_eq_some_iff.1 hB).1
      obtain ⟨h0, h1, h2, h3⟩ := hC k hlt
      have c0 : wr.cell? ⟨B, k * 4, none⟩ = some (.string (c.I k)) := (hbl.cell (by exact hBl)).trans ((cell_of_row w B _ C _ _ hB).trans h0)
      have c1 : wr.cell? ⟨B, k * 4 + 1, none⟩ = some (.string (c.T k)) := (hbl.cell (by exact hBl)).trans ((cell_of_row w B _ C _ _ hB).trans h1)
      have c2 : wr.cell? ⟨B, k * 4 + 2, none⟩ = some (.bool (c.L k)) := (hbl.cell (by exact hBl)).trans ((cell_of_row w B _ C _ _ hB).trans h2)
      have c3 : wr.cell? ⟨B, k * 4 + 3, none⟩ = some (.int .i64 (c.S k)) := (hbl.cell (by exact hBl)).trans ((cell_of_row w B _ C _ _ hB).trans h3)
      have hlt' : (k : Int) < n := by omega
      have HB : Hid (Items w.heap.size n k c w wr) := ⟨D, hD, hsz, hid, hbl⟩
      obtain ⟨o0, d0⟩ := row_cell hD k (by omega)
      have f0 := frozen_of_row wr w.heap.size k D 20 hD
      have hwl : w.heap.size < wr.heap.size := (Array.getElem?_eq_some_iff.1 hD).1
      clear h0 h1 h2 h3 hD hsz hid hbl hC HH hB g0 g1 hgl
      go_wp2
      go_roundw
      case rel => exact ⟨k + 1, by omega, by go_num, items_step hlt HB.out _ _⟩
      case measure => simp [intOf]; omega
    · have HB : Hid (Items w.heap.size n k c w wr) := ⟨D, hD, hsz, hid, hbl⟩
      clear hD hsz hid hbl HH
      go_wp2
      go_ret
      obtain rfl : k = n := by omega
      exact ⟨rfl, HB.out⟩
end Go.Proofs.Ybulkawfm
