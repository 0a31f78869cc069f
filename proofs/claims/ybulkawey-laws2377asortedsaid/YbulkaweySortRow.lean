import Derived.Test.YbulkaweyRows
import Derived.Test.YbulkaweySortLaws
import Derived.WalkKit
import Derived.ProofKit
import Derived.OpenShut
import Derived.RowKit3
import Derived.Laws.Rows
import Derived.BigRegion
import Derived.WalkSpells
import Derived.Deep.RegionWith
namespace Go.Proofs.Ybulkawey
open Go.RowKit
set_option linter.unusedVariables false

/-- An append: its call, its return, its value. -/
structure App where
  call : Int
  ret : Int
  val : ByteArray
  /-- The empty one. -/
def App.zero : App := ⟨0, 0, ByteArray.empty⟩

/-- Block G holds N appends, the i-th is f i. -/
def RowF (G N : Nat) (f : Nat → App) (w : World) : Prop :=
  ∃ C : Array Value, w.heap[G]? = some (.cells C 27 (0, 0)) ∧ C.size = N * 3 ∧
    ∀ i, i < N → C[i * 3]? = some (.int .i64 (f i).call) ∧ C[i * 3 + 1]? = some (.int .i64 (f i).ret) ∧ C[i * 3 + 2]? = some (.string (f i).val)

theorem RowF.cells {G N : Nat} {f : Nat → App} {w : World} (h : RowF G N f w) {i : Nat} (hi : i < N) :
    w.cell? ⟨G, i * 3, none⟩ = some (.int .i64 (f i).call) ∧ w.cell? ⟨G, i * 3 + 1, none⟩ = some (.int .i64 (f i).ret) ∧ w.cell? ⟨G, i * 3 + 2, none⟩ = some (.string (f i).val) := by
  obtain ⟨C, hC, _, hf⟩ := h
  rw [cell_of_row w G _ C _ _ hC, cell_of_row w G _ C _ _ hC, cell_of_row w G _ C _ _ hC]
  exact hf i hi
theorem RowF.free {G N : Nat} {f : Nat → App} {w : World} (h : RowF G N f w) (o : Nat) : w.frozen? ⟨G, o, none⟩ = false := by
  obtain ⟨C, hC, _, _⟩ := h
  exact frozen_of_row w G o C 27 hC
theorem RowF.lt {G N : Nat} {f : Nat → App} {w : World} (h : RowF G N f w) : G < w.heap.size := by
  obtain ⟨C, hC, _, _⟩ := h
  exact (Array.getElem?_eq_some_iff.1 hC).1
theorem RowF.grown {G N : Nat} {f : Nat → App} {w w' : World} (h : RowF G N f w) (hg : w.grownBy w' none) : RowF G N f w' := by
  obtain ⟨C, hC, r⟩ := h
  exact ⟨C, by rw [hg.block G (Array.getElem?_eq_some_iff.1 hC).1 (by simp), hC], r⟩
theorem RowF.congr {G N : Nat} {f g : Nat → App} {w : World} (h : RowF G N f w) (e : ∀ i, i < N → g i = f i) : RowF G N g w := by
  obtain ⟨C, hC, h1, h2⟩ := h
  exact ⟨C, hC, h1, fun i hi => by rw [e i hi]; exact h2 i hi⟩

theorem RowF.drew {G N : Nat} {f : Nat → App} {w : World} (h : RowF G N f w) : RowF G N f w.drew := by
  obtain ⟨C, hC, r⟩ := h
  exact ⟨C, hC, r⟩

/-- Three cells of the row written. -/
theorem RowF.put {G N : Nat} {f : Nat → App} {w : World} (h : RowF G N f w) (a : Nat) (ha : a < N) (x : App) (g : Nat → App) (hga : g a = x) (hgo : ∀ i, i ≠ a → g i = f i) :
    RowF G N g (((w.setCell ⟨G, a * 3, none⟩ (.int .i64 x.call)).setCell ⟨G, a * 3 + 1, none⟩ (.int .i64 x.ret)).setCell ⟨G, a * 3 + 2, none⟩ (.string x.val)) := by
  obtain ⟨C, hC, hsz, hf⟩ := h
  have e1 := heap_setCell_same w G (a * 3) C 27 (.int .i64 x.call) hC
  have e2 := heap_setCell_same _ G (a * 3 + 1) _ 27 (.int .i64 x.ret) e1
  have e3 := heap_setCell_same _ G (a * 3 + 2) _ 27 (.string x.val) e2
  refine ⟨_, e3, by simp [hsz], fun j hj => ?_⟩
  simp only [Array.getElem?_setIfInBounds, Array.size_setIfInBounds]
  by_cases e : j = a
  · subst e
    rw [hga]
    refine ⟨?_, ?_, ?_⟩
    · rw [if_neg (by omega), if_neg (by omega), if_pos rfl, if_pos (by omega)]
    · rw [if_neg (by omega), if_pos rfl, if_pos (by omega)]
    · rw [if_pos rfl, if_pos (by omega)]
  · rw [hgo j e]
    obtain ⟨a0, a1, a2⟩ := hf j hj
    refine ⟨?_, ?_, ?_⟩ <;> (rw [if_neg (by omega), if_neg (by omega), if_neg (by omega)]; assumption)

theorem grownBy_refl (w : World) (row : Option Nat) : w.grownBy w row := ⟨rfl, rfl, rfl, Nat.le_refl _, fun _ _ _ => rfl⟩
theorem grownBy_trans {a b c : World} {row : Option Nat} (h : a.grownBy b row) (k : b.grownBy c row) : a.grownBy c row :=
  ⟨k.os.trans h.os, k.tape.trans h.tape, k.output.trans h.output, Nat.le_trans h.size k.size, fun i hi hne => (k.block i (Nat.lt_of_lt_of_le hi h.size) hne).trans (h.block i hi hne)⟩
theorem grownBy_set {a b : World} {G : Nat} (h : a.grownBy b (some G)) (o : Nat) (v : Value) : a.grownBy (b.setCell ⟨G, o, none⟩ v) (some G) :=
  grownBy_trans h ⟨rfl, rfl, rfl, by simp [World.setCell], fun k _ hne => heap_setCell_other _ _ _ _ (fun e => hne (by rw [e]))⟩
theorem grownBy_drew {a b : World} {row : Option Nat} (h : a.grownBy b row) : a.grownBy b.drew row := ⟨h.os, h.tape, h.output, h.size, h.block⟩
theorem grown_drew {w W : World} {row : Option Nat} (h : w.drew.grownBy W row) : w.grownBy W row := ⟨h.os, h.tape, h.output, h.size, h.block⟩
theorem grown_row {w w' : World} (h : w.grownBy w' none) (G : Nat) : w.grownBy w' (some G) := ⟨h.os, h.tape, h.output, h.size, fun k hk _ => h.block k hk (by simp)⟩

/-- Two appends of the row exchanged. -/
theorem RowF.swap {G N : Nat} {f : Nat → App} {w : World} (h : RowF G N f w) (a b : Nat) (ha : a < N) (hb : b < N) :
    RowF G N (swp f a b) (((((((w.setCell ⟨G, a * 3, none⟩ (.int .i64 (f b).call)).setCell ⟨G, a * 3 + 1, none⟩ (.int .i64 (f b).ret)).setCell ⟨G, a * 3 + 2, none⟩ (.string (f b).val)).setCell ⟨G, b * 3, none⟩ (.int .i64 (f a).call)).setCell ⟨G, b * 3 + 1, none⟩ (.int .i64 (f a).ret)).setCell ⟨G, b * 3 + 2, none⟩ (.string (f a).val)).drew) := by
  have h1 := h.put a ha (f b) (fun i => if i = a then f b else f i) (if_pos rfl) (fun i hi => if_neg hi)
  have h2 := h1.put b hb (f a) (swp f a b) (by unfold swp; by_cases e : b = a <;> simp [e]) (fun i hi => by unfold swp; simp [hi])
  exact h2.drew

/-! ### cmp.Compare and the closure -/
/-- What the closure answers. -/
def cmpI (x y : Int) : Int := if x < y then -1 else if y < x then 1 else 0

set_option maxHeartbeats 400000 in
theorem cmp_any (p q : App) (w : World) :
    Calls Yba.prog 9 #[.agg #[.int .i64 p.call, .int .i64 p.ret, .string p.val], .agg #[.int .i64 q.call, .int .i64 q.ret, .string q.val]] w fun e w' =>
      e = .returned (.int .i64 (cmpI p.call q.call)) ∧ w.grownBy w' none := by
  by_cases h1 : p.call < q.call
  · have E : Hid (cmpI p.call q.call = -1) := by simp [cmpI, Hid, h1]
    go_enter Yba.func9, Yba.ntmps9
    go_wp2
    go_ret
    exact ⟨by rw [E.out]; rfl, grownBy_trans (World.grownBy_alloc _ _ _) (World.grownBy_alloc _ _ _)⟩
  · by_cases h2 : q.call < p.call
    · have E : Hid (cmpI p.call q.call = 1) := by simp [cmpI, Hid, h1, h2]
      go_enter Yba.func9, Yba.ntmps9
      go_wp2
      go_ret
      exact ⟨by rw [E.out]; rfl, grownBy_trans (World.grownBy_alloc _ _ _) (World.grownBy_alloc _ _ _)⟩
    · have E : Hid (cmpI p.call q.call = 0) := by simp [cmpI, Hid, h1, h2]
      go_enter Yba.func9, Yba.ntmps9
      go_wp2
      go_ret
      exact ⟨by rw [E.out]; rfl, grownBy_trans (World.grownBy_alloc _ _ _) (World.grownBy_alloc _ _ _)⟩

set_option maxHeartbeats 1000000 in
/-- slices.swapRangeCmpFunc. -/
theorem swapRange_any (G N : Nat) (f : Nat → App) (cf : Value) (ai bi ni : Int) (a b n : Nat) (ha : ai = a) (hb : bi = b) (hn : ni = n) (w : World) (hN : N ≤ 1000) (hab : a + n ≤ b) (hbN : b + n ≤ N) (hrow : RowF G N f w) :
    Calls Yba.prog 25 #[.slice (some ⟨G, 0, none⟩) N N, .int .i64 ai, .int .i64 bi, .int .i64 ni, cf] w fun e w' =>
      e = .returned (.tuple #[]) ∧ RowF G N (swr f a b n) w' ∧ w.grownBy w' (some G) := by
  subst ha hb hn
  have HR : Hid (RowF G N f w) := hrow
  clear hrow
  go_enter Yba.func25, Yba.ntmps25
  go_wp2
  go_loopw [10] (fun i wr => ∃ k : Nat, k ≤ n ∧ i = .int .i64 k ∧ RowF G N (swr f a b k) wr ∧ w.grownBy wr (some G)) (fun i _ => n - (intOf i).toNat)
  case atStart => exact ⟨0, Nat.zero_le _, rfl, by rw [swr_zero]; exact HR.out, grownBy_refl _ _⟩
  case round =>
    obtain ⟨k, hk, rfl, hr, hg⟩ := hrel
    by_cases hlt : k < n
    · obtain ⟨a0, a1, a2⟩ := hr.cells (show a + k < N by omega)
      obtain ⟨b0, b1, b2⟩ := hr.cells (show b + k < N by omega)
      have f0 := hr.free
      have HR2 : Hid (RowF G N (swr f a b k) wr ∧ w.grownBy wr (some G)) := ⟨hr, hg⟩
      have hlt' : (k : Int) < n := by omega
      clear hr hg
      go_wp2
      go_region
      go_wp2
      go_roundw
      case rel =>
        refine ⟨k + 1, by omega, by go_num, ?_, ?_⟩
        · rw [← swr_step f hab hlt]
          exact HR2.out.1.swap (a + k) (b + k) (by omega) (by omega)
        · exact grownBy_drew (grownBy_set (grownBy_set (grownBy_set (grownBy_set (grownBy_set (grownBy_set HR2.out.2 _ _) _ _) _ _) _ _) _ _) _ _)
      case measure => simp [intOf]; omega
    · have HR2 : Hid (RowF G N (swr f a b k) wr ∧ w.grownBy wr (some G)) := ⟨hr, hg⟩
      clear hr hg
      go_wp2
      obtain rfl : k = n := by omega
      go_end0
      exact ⟨rfl, HR2.out⟩
end Go.Proofs.Ybulkawey
