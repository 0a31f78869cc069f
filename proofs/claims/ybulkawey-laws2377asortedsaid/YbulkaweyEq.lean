import Derived.Test.YbulkaweyDecode
import Derived.Deep.QuietTactic
namespace Go.Proofs.Ybulkawey
open Go.RowKit
set_option linter.unusedVariables false

/-- Cells of n appends from the head of block g on. -/
def At (g n : Nat) (f : Nat → App) (w : World) : Prop := ∀ i, i < n →
  w.cell? ⟨g, i * 3, none⟩ = some (.int .i64 (f i).call) ∧ w.cell? ⟨g, i * 3 + 1, none⟩ = some (.int .i64 (f i).ret) ∧ w.cell? ⟨g, i * 3 + 2, none⟩ = some (.string (f i).val)
theorem At.kept {g n : Nat} {f : Nat → App} {w w' : World} (h : At g n f w) (hg : g < w.heap.size) (k : Kp w w') : At g n f w' := fun i hi => by
  rw [k.cell hg, k.cell hg, k.cell hg]; exact h i hi

set_option maxRecDepth 100000 in
set_option maxHeartbeats 4000000 in
/-- zzs2377aeq, of equal rows. -/
theorem eq_any (g G n c d : Nat) (f : Nat → App) (w : World) (hn : n ≤ 256) (hx : At g n f w) (hy : At G n f w) (hg : g < w.heap.size) (hG : G < w.heap.size) :
    Calls Yba.prog 11 #[.slice (some ⟨g, 0, none⟩) n c, .slice (some ⟨G, 0, none⟩) n d] w fun e w' => e = .returned (.bool true) ∧ Kp w w' := by
  have HX : Hid (At g n f w ∧ At G n f w ∧ g < w.heap.size ∧ G < w.heap.size) := ⟨hx, hy, hg, hG⟩
  clear hx hy hg hG
  go_enter Yba.func11, Yba.ntmps11
  go_wp2_with fail
  go_loopw [5] (fun i' wr => ∃ (i : Nat), i ≤ n ∧ i' = .int .i64 i ∧ Kp w wr) (fun i _ => n - (intOf i).toNat)
  case atStart => exact ⟨0, by omega, rfl, Kp.refl _⟩
  case round =>
    obtain ⟨i, hi, rfl, hk⟩ := hrel
    have HK : Hid (Kp w wr) := hk
    clear hk
    by_cases hlt : i < n
    · have hlt' : (i : Int) < n := by omega
      have mx := mixed
      obtain ⟨X, hX⟩ : ∃ X, f i = X := ⟨_, rfl⟩
      obtain ⟨x0, x1, x2⟩ := (HX.out.1.kept HX.out.2.2.1 HK.out) i hlt
      obtain ⟨y0, y1, y2⟩ := (HX.out.2.1.kept HX.out.2.2.2 HK.out) i hlt
      rw [hX] at x0 x1 x2 y0 y1 y2
      clear hX
      go_wp2_with fail
      go_quiet (fail)
      clear x0 x1 x2 y0 y1 y2
      have HKn : Hid (Kp w (wr.drewN nq)) := HK.out.trans ⟨rfl, rfl, Nat.le_refl _, fun _ _ => rfl⟩
      go_wp2_with fail
      go_roundw
      case rel => exact ⟨i + 1, by omega, by go_num, HKn.out⟩
      case measure => simp [intOf]; omega
    · have hlt' : ¬ (i : Int) < n := by omega
      go_wp2_with fail
      go_ret
      exact ⟨rfl, HK.out⟩

set_option maxHeartbeats 1000000 in
/-- zzs2377aeq, of a nil slice and an empty one. -/
theorem eq_nil (ao : Option Addr) (w : World) :
    Calls Yba.prog 11 #[.slice none 0 0, .slice ao 0 0] w fun e w' => e = .returned (.bool true) ∧ Kp w w' := by
  go_enter Yba.func11, Yba.ntmps11
  go_wp2_with fail
  go_loopw [5] (fun i' wr => i' = .int .i64 0 ∧ Kp w wr) (fun i _ => 0)
  case atStart => exact ⟨rfl, Kp.refl _⟩
  case round =>
    obtain ⟨rfl, hk⟩ := hrel
    have HK : Hid (Kp w wr) := hk
    clear hk
    go_wp2_with fail
    go_ret
    exact ⟨rfl, HK.out⟩
end Go.Proofs.Ybulkawey
