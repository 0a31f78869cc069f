import Derived.Test.YbulkaweySortRow
namespace Go.Proofs.Ybulkawey
open Go.RowKit
set_option linter.unusedVariables false

theorem i64_congr {a b : Int} (h : a = b) : Value.int .i64 a = .int .i64 b := by rw [h]

set_option maxHeartbeats 1000000 in
/-- slices.rotateCmpFunc. -/
theorem rotate_any (G N : Nat) (f : Nat → App) (cf : Value) (ai mi bi : Int) (a m b : Nat) (ha : ai = a) (hm : mi = m) (hb : bi = b) (w : World) (hN : N ≤ 1000) (ham : a < m) (hmb : m < b) (hbN : b ≤ N) (hrow : RowF G N f w) :
    Calls Yba.prog 24 #[.slice (some ⟨G, 0, none⟩) N N, .int .i64 ai, .int .i64 mi, .int .i64 bi, cf] w fun e w' =>
      e = .returned (.tuple #[]) ∧ RowF G N (rot f a m b) w' ∧ w.grownBy w' (some G) := by
  subst ha hm hb
  have HR : Hid (RowF G N f w) := hrow
  clear hrow
  go_enter Yba.func24, Yba.ntmps24
  go_wp2_with fail
  go_loopw [10, 11] (fun i' j' wr => ∃ (i j : Nat) (g : Nat → App), 0 < i ∧ 0 < j ∧ a + i ≤ m ∧ m + j ≤ b ∧ i' = .int .i64 i ∧ j' = .int .i64 j ∧ rot g (m - i) m (m + j) = rot f a m b ∧ RowF G N g wr ∧ w.grownBy wr (some G)) (fun i j _ => (intOf i).toNat + (intOf j).toNat)
  case atStart =>
    refine ⟨m - a, b - m, f, by omega, by omega, by omega, by omega, i64_congr (by omega), i64_congr (by omega), ?_, HR.out, grownBy_refl _ _⟩
    rw [show m - (m - a) = a by omega, show m + (b - m) = b by omega]
  case round =>
    obtain ⟨i, j, g, hi, hj, hai, hjb, rfl, rfl, hrot, hr, hg⟩ := hrel
    have HR2 : Hid (rot g (m - i) m (m + j) = rot f a m b ∧ RowF G N g wr ∧ w.grownBy wr (some G)) := ⟨hrot, hr, hg⟩
    clear hrot hr hg
    by_cases hij : i = j
    · subst hij
      have hne : ((i : Int) != i) = false := by simp
      go_wp2_with fail
      refine (swapRange_any G N g cf _ _ _ (m - i) m i (by omega) rfl rfl _ hN (by omega) (by omega) HR2.out.2.1).mono ?_
      rintro e w1 ⟨rfl, hr1, hg1⟩
      have HR3 : Hid (RowF G N (swr g (m - i) m i) w1 ∧ wr.grownBy w1 (some G)) := ⟨hr1, hg1⟩
      clear hr1 hg1
      go_wp2_with fail
      go_end0
      refine ⟨rfl, ?_, grownBy_trans HR2.out.2.2 HR3.out.2⟩
      rw [← HR2.out.1, ← rot_even g (by omega)]
      exact HR3.out.1
    · have hne : ((i : Int) != j) = true := by simp; omega
      by_cases hgt : j < i
      · have hgt' : (j : Int) < i := by omega
        go_wp2_with fail
        refine (swapRange_any G N g cf _ _ _ (m - i) m j (by omega) rfl rfl _ hN (by omega) (by omega) HR2.out.2.1).mono ?_
        rintro e w1 ⟨rfl, hr1, hg1⟩
        have HR3 : Hid (RowF G N (swr g (m - i) m j) w1 ∧ wr.grownBy w1 (some G)) := ⟨hr1, hg1⟩
        clear hr1 hg1
        go_wp2_with fail
        go_roundw
        case rel =>
          refine ⟨i - j, j, _, by omega, hj, by omega, hjb, i64_congr (by omega), rfl, ?_, HR3.out.1, grownBy_trans HR2.out.2.2 HR3.out.2⟩
          rw [rot_big g hgt (by omega)]
          exact HR2.out.1
        case measure => simp [intOf]; omega
      · have hgt' : ¬ (j : Int) < i := by omega
        go_wp2_with fail
        refine (swapRange_any G N g cf _ _ _ (m - i) (m + j - i) i (by omega) (by omega) rfl _ hN (by omega) (by omega) HR2.out.2.1).mono ?_
        rintro e w1 ⟨rfl, hr1, hg1⟩
        have HR3 : Hid (RowF G N (swr g (m - i) (m + j - i) i) w1 ∧ wr.grownBy w1 (some G)) := ⟨hr1, hg1⟩
        clear hr1 hg1
        go_wp2_with fail
        go_roundw
        case rel =>
          refine ⟨i, j - i, _, hi, by omega, hai, by omega, rfl, i64_congr (by omega), ?_, HR3.out.1, grownBy_trans HR2.out.2.2 HR3.out.2⟩
          rw [rot_small g (by omega) (by omega)]
          exact HR2.out.1
        case measure => simp [intOf]; omega
end Go.Proofs.Ybulkawey
